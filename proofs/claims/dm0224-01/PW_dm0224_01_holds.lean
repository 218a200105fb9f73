import PyProof.Rows.All
import Wide.All
import OpenK.AllK
import Wide.FinOn
import PySem.Challenge.RW_dm0224_01
open PySem PySem.W PyProof.Rows
set_option Elab.async false
set_option maxRecDepth 100000
namespace Mine
set_option maxHeartbeats 8000000 in
open_top hd for PySem.Challenge.rw_dm0224_01
open PySem PySem.W PySem.Calls PyProof.Rows PySem.Spec

section
variable {prog : Program} {w : World} {A : Around} {E : Value → Shared → Prop} {s : Shared} {h₀ : Heap} {L l : Addr} {m : Str → Option Value} {news : List (Addr × Obj)} {value slice : PySem.Expr} {its : Array Value} {vs zs : List Value} {ns : List Int} {vl vu vk : Value} {lo hi st : Option Int} {x y : Int} {ops : List Value} {Q : Value → Shared → Prop}

theorem dm_slice3 (F : Fr h₀ L s.heap m) (N : News h₀ L s.heap news) (hl : s.heap.IsList l vs.toArray) (pl : IsPart vl lo) (pu : IsPart vu hi) (pk : IsPart vk st) (h0 : st ≠ some 0) (hi' : IntsAre vs ns)
    (h : ∀ D ws ms h', Fr h₀ L h' m → News h₀ L h' ((D, listOf (List.toArray ws) 0) :: news) → (∀ p ∈ news, p.1 < D) → IntsAre ws ms → ms.length ≤ ns.length → Q (.ref D) { s with heap := h' })
    (hs : subscripted slice false (.ref l) (.ref s.heap.objs.size) = operate ops (getItem (.ref l) (.ref s.heap.objs.size))) (ht : ∀ r, letTemporaryGo value (.ref l) r = pure ()) (hz : vs.toArray.size ≤ sizeLine) :
    wpAny (model prog w) A (subscriptTail value slice (.ref l) (.ref s.heap.objs.size)) Q E { s with heap := s.heap.push { cls := .type "slice", data := .fields #[vl, vu, vk] } } := by
  have hm := IntsAre.pick hi' lo hi st
  have hle : (pickNums ns lo hi st).length ≤ ns.length := by
    have q := slicePick_size_le vs.toArray lo hi st
    rw [← hm.length, ← hi'.length, Array.length_toList]
    simpa using q
  exact kmk_slice3_lit F N hl pl pu pk h0 rfl (fun D h' F' N' l1 => h D _ _ h' F' N' l1 hm hle) hs ht hz
end

abbrev tupObj (vs : List Value) : Obj := { cls := .type "tuple", data := .seq vs.toArray }

theorem dm_noFill_tuple_mul : fillsNumberSlot (.type "tuple") "mul" = pure false :=
  PySem.fillsNumberSlot_seq (id := "tuple.__mul__") (r := some (.builtin "tuple.__rmul__")) PySem.F.slot_tuple_mul.lookup (by decide +kernel) PySem.F.slot_tuple_rmul.lookup (by decide +kernel)
theorem dm_repeat_tuple : seqRepeat? (.type "tuple") = pure (some (.builtin "tuple.__mul__")) := by
  unfold seqRepeat?
  rw [PySem.seqSlot_of (T := "tuple") (name := "__mul__") (id := "tuple.__mul__") PySem.F.slot_tuple_mul.lookup (by decide +kernel), PySem.seqSlot_of (T := "tuple") (name := "__rmul__") (id := "tuple.__rmul__") PySem.F.slot_tuple_rmul.lookup (by decide +kernel)]
  rfl
theorem dm_int_rmul_tuple (a : Int) (t : Tok) (l : Addr) (v : Value) :
    Meets (Builtin.«int.__rmul__» ⟨[.int a t, .ref l], []⟩) (fun _ R s => s.heap.get? l = some (tupObj [v]) ∧ R (.ok (.ret Value.notImplemented)) s) :=
  .of_wp fun prog w A R s h => by obtain ⟨hp, g, d, tk, os⟩ := s; obtain ⟨hl, h⟩ := h; wp_walk; exact ⟨_, rfl, h⟩
theorem dm_tuple_mul0 (l : Addr) (v : Value) (u : Tok) :
    Meets (Builtin.«tuple.__mul__» ⟨[.ref l, .int 0 u], []⟩) (fun _ R s => s.heap.get? l = some (tupObj [v]) ∧ R (.ok (.ret (.ref s.heap.objs.size))) { s with heap := s.heap.push (tupObj []) }) :=
  .of_wp fun prog w A R s h => by obtain ⟨hp, g, d, tk, os⟩ := s; obtain ⟨hl, h⟩ := h; wp_walk; exact ⟨_, rfl, h⟩
theorem dm_tuple_mul1 (l : Addr) (v : Value) (u : Tok) :
    Meets (Builtin.«tuple.__mul__» ⟨[.ref l, .int 1 u], []⟩) (fun _ R s => s.heap.get? l = some (tupObj [v]) ∧ R (.ok (.ret (.ref l))) s) :=
  .of_wp fun prog w A R s h => by obtain ⟨hp, g, d, tk, os⟩ := s; obtain ⟨hl, h⟩ := h; wp_walk; exact ⟨_, rfl, h⟩
set_option maxHeartbeats 1000000 in
theorem dm_tuple_muln (l : Addr) (v : Value) (x : Int) (u : Tok) (h1 : 2 ≤ x) (h2 : x ≤ 6) :
    Meets (Builtin.«tuple.__mul__» ⟨[.ref l, .int x u], []⟩) (fun _ R s => s.heap.get? l = some (tupObj [v]) ∧ R (.ok (.ret (.ref s.heap.objs.size))) { s with heap := s.heap.push (tupObj (List.replicate x.toNat v)) }) :=
  .of_wp fun prog w A R s h => by
    obtain ⟨hp, g, d, tk, os⟩ := s; obtain ⟨hl, h⟩ := h
    have c0 : (decide (x < -(2 ^ 63)) || decide (x ≥ 2 ^ 63)) = false := by simp; omega
    have c1 : (x == 1) = false := by simp; omega
    have c2 : ¬ x ≤ 0 := by omega
    have e : (List.foldl (fun x1 x2 => x1 ++ x2) #[] (List.replicate x.toNat #[v])) = (List.replicate x.toNat v).toArray := by
      have hx : x = 2 ∨ x = 3 ∨ x = 4 ∨ x = 5 ∨ x = 6 := by omega
      rcases hx with rfl | rfl | rfl | rfl | rfl <;> rfl
    wp_walk
    rw [if_neg (by rw [c0]; decide)]
    wp_walk
    rw [if_neg (by show ¬ ((#[v].size : Int) * x > (2 ^ 63 - 1) / 8); simp; omega)]
    wp_walk
    rw [if_neg (by show ¬ (decide ((#[v].size : Int) * x > (sizeLine : Int)) = true); simp [sizeLine]; omega)]
    wp_walk
    rw [if_neg (by rw [e]; simp [sizeLine]; omega)]
    wp_walk
    rw [e]
    exact ⟨_, rfl, h⟩

section
variable {prog : Program} {w : World} {A : Around} {E : Value → Shared → Prop} {s : Shared} {h₀ : Heap} {L l t : Addr} {m : Str → Option Value} {news : List (Addr × Obj)} {v : Value} {x : Int} {u : Tok} {Q : Value → Shared → Prop}

theorem dm_tuple_times (F : Fr h₀ L s.heap m) (N : News h₀ L s.heap ((t, tupObj [v]) :: news)) (l1 : ∀ p ∈ news, p.1 < t) (h0 : 0 ≤ x) (h6 : x ≤ 6)
    (h : ∀ D h', Fr h₀ L h' m → News h₀ L h' ((D, tupObj (List.replicate x.toNat v)) :: news) → (∀ p ∈ news, p.1 < D) → Q (.ref D) { s with heap := h' }) :
    wpAny (model prog w) A (binaryOp .Mult (.ref t) (.int x u)) Q E s := by
  have ho : s.heap.get? t = some (tupObj [v]) := (N _ (.head _)).1
  have N2 : News h₀ L s.heap news := fun p hp => N p (.tail _ hp)
  refine wpAny_binaryOp_repeat_ref (T := "tuple") (U := "int") (by decide) ⟨_, ho, rfl⟩ (fun s' => typeIs_int s' x u) dm_noFill_tuple_mul PySem.F.fills_int_mul PySem.F.slot_int_rmul dm_repeat_tuple PySem.F.slot_int_index.lookup
    (call_meets PySem.F.slot_int_rmul (typeIs_int s x u) PySem.F.entry_int_rmul (PySem.F.args_int_rmul_2 _ _) (dm_int_rmul_tuple x u t v) ⟨ho, rfl, ⟨_, ho, rfl⟩, ?_⟩)
  have hx : x = 0 ∨ x = 1 ∨ 2 ≤ x := by omega
  rcases hx with rfl | rfl | hx
  · exact call_meets PySem.F.slot_tuple_mul ⟨_, ho, rfl⟩ PySem.F.entry_tuple_mul (PySem.F.args_tuple_mul_2 _ _) (dm_tuple_mul0 t v u)
      ⟨ho, h _ _ (F.push _) (News.push F N2 (tupObj [])) (fun p hp => Heap.lt_size (N2 p hp).1)⟩
  · exact call_meets PySem.F.slot_tuple_mul ⟨_, ho, rfl⟩ PySem.F.entry_tuple_mul (PySem.F.args_tuple_mul_2 _ _) (dm_tuple_mul1 t v u)
      ⟨ho, h _ _ F N l1⟩
  · exact call_meets PySem.F.slot_tuple_mul ⟨_, ho, rfl⟩ PySem.F.entry_tuple_mul (PySem.F.args_tuple_mul_2 _ _) (dm_tuple_muln t v x u hx h6)
      ⟨ho, h _ _ (F.push _) (News.push F N2 (tupObj (List.replicate x.toNat v))) (fun p hp => Heap.lt_size (N2 p hp).1)⟩

theorem dm_list_times (F : Fr h₀ L s.heap m) (N : News h₀ L s.heap ((t, listOf [v].toArray 0) :: news)) (h0 : 0 ≤ x) (h6 : x ≤ 6)
    (h : ∀ D h', Fr h₀ L h' m → News h₀ L h' ((D, listOf (List.replicate x.toNat v).toArray 0) :: news) → (∀ p ∈ news, p.1 < D) → Q (.ref D) { s with heap := h' }) :
    wpAny (model prog w) A (binaryOp .Mult (.ref t) (.int x u)) Q E s := by
  have N2 : News h₀ L s.heap news := fun p hp => N p (.tail _ hp)
  refine KMa.mul (vs := [v]) F N2 (News.isList N (.head _)) (by omega) (by omega) (by simp; omega) (ws := List.replicate x.toNat v) ?_ h
  rw [List.flatten_replicate_singleton]

/-- the three iterators -/
abbrev liObj (l : Addr) (i : Nat) : Obj := { cls := .type "list_iterator", data := .fields #[.ref l, .int i 0] }
abbrev tiObj (l : Addr) (i : Nat) : Obj := { cls := .type "tuple_iterator", data := .fields #[.ref l, .int i 0] }
abbrev riObj (x left : Int) : Obj := { cls := .type "range_iterator", data := .fields #[rawInt x, rawInt left, rawInt 1] }

theorem dm_iter_list {n : Nat} (F : Fr h₀ L s.heap m) (N : News h₀ L s.heap news) (hp : (l, listOf (List.replicate x.toNat v).toArray n) ∈ news)
    (h : ∀ I h', ((0 : Nat) : Int) + x = x → Fr h₀ L h' m → News h₀ L h' ((I, liObj l 0) :: news) → (∀ p ∈ news, p.1 < I) → Q (.ref I) { s with heap := h' }) :
    wpAny (model prog w) A (call (.builtin "iter") [.ref l]) Q E s := by
  refine call_function_entry (by decide +kernel) (by decide +kernel) kdk_entry_iter (kdk_args_iter _) ?_
  unfold Builtin.«iter»
  refine wpAny_bind (m := someArgs "iter" 1 2 _) (wpAny_of_eq (a := [Value.ref l]) (by first | rfl | kernel_rfl!) ?_)
  show wpAny _ _ (pyIter (.ref l) >>= _) _ _ _
  refine wpAny_bind (wpAny_pyIter_list (News.isList N hp) ?_)
  exact wpAny_pure ⟨_, rfl, h _ _ (by omega) (F.push _) (News.push F N (liObj l 0) rfl) (fun q hq => Heap.lt_size (N q hq).1)⟩
theorem dm_iter_tuple (F : Fr h₀ L s.heap m) (N : News h₀ L s.heap news) (hp : (l, tupObj (List.replicate x.toNat v)) ∈ news)
    (h : ∀ I h', ((0 : Nat) : Int) + x = x → Fr h₀ L h' m → News h₀ L h' ((I, tiObj l 0) :: news) → (∀ p ∈ news, p.1 < I) → Q (.ref I) { s with heap := h' }) :
    wpAny (model prog w) A (call (.builtin "iter") [.ref l]) Q E s := by
  refine call_function_entry (by decide +kernel) (by decide +kernel) kdk_entry_iter (kdk_args_iter _) ?_
  unfold Builtin.«iter»
  refine wpAny_bind (m := someArgs "iter" 1 2 _) (wpAny_of_eq (a := [Value.ref l]) (by first | rfl | kernel_rfl!) ?_)
  show wpAny _ _ (pyIter (.ref l) >>= _) _ _ _
  refine wpAny_bind (wpAny_pyIter_tuple (items := (List.replicate x.toNat v).toArray) ⟨_, (N _ hp).1, rfl, _, rfl⟩ ?_)
  exact wpAny_pure ⟨_, rfl, h _ _ (by omega) (F.push _) (News.push F N (tiObj l 0) rfl) (fun q hq => Heap.lt_size (N q hq).1)⟩
theorem dm_iter_range {b : Int} {t1 t2 t3 : Tok} (F : Fr h₀ L s.heap m) (N : News h₀ L s.heap news) (hr : IsRange s.heap l 0 b 1 t1 t2 t3) (h0 : 0 ≤ b) (h6 : b ≤ 6)
    (h : ∀ I h', Fr h₀ L h' m → News h₀ L h' ((I, riObj 0 b) :: news) → (∀ p ∈ news, p.1 < I) → Q (.ref I) { s with heap := h' }) :
    wpAny (model prog w) A (call (.builtin "iter") [.ref l]) Q E s := by
  refine call_function_entry (by decide +kernel) (by decide +kernel) kdk_entry_iter (kdk_args_iter _) ?_
  unfold Builtin.«iter»
  refine wpAny_bind (m := someArgs "iter" 1 2 _) (wpAny_of_eq (a := [Value.ref l]) (by first | rfl | kernel_rfl!) ?_)
  show wpAny _ _ (pyIter (.ref l) >>= _) _ _ _
  have hx : b = 0 ∨ b = 1 ∨ b = 2 ∨ b = 3 ∨ b = 4 ∨ b = 5 ∨ b = 6 := by omega
  have es : Builtin.Range.rangeSize 0 b 1 = b := by rcases hx with rfl | rfl | rfl | rfl | rfl | rfl | rfl <;> decide
  have sm : Builtin.Range.small 0 b 1 = true := by rcases hx with rfl | rfl | rfl | rfl | rfl | rfl | rfl <;> decide
  refine wpAny_bind (wpAny_pyIter_range hr sm ?_)
  rw [es]
  exact wpAny_pure ⟨_, rfl, h _ _ (F.push _) (News.push F N (riObj 0 b) rfl) (fun q hq => Heap.lt_size (N q hq).1)⟩

theorem dm_most {a : Int} {t1 t2 : Tok} (h : ∀ b : Int, 1 ≤ b → b ≤ 3 → Q (.int b s.toks) { s with toks := s.toks + 1 }) :
    wpAny (model prog w) A (binaryOp .Add (.int 1 t1) (.int (a.fmod 3) t2)) Q E s := by
  refine PyProof.Rows.add_int (h _ ?_ ?_)
  · have := Int.fmod_nonneg_of_pos a (b := 3) (by decide); omega
  · have := Int.fmod_lt_of_pos a (b := 3) (by decide); omega
theorem dm_newHeaps {x y z : Int} {t1 t2 t3 : Tok} (F : Fr h₀ L s.heap m) (N : News h₀ L s.heap news)
    (h : ∀ a b c : Int, 1 ≤ a → a ≤ 6 → 0 ≤ b → b ≤ 6 → 0 ≤ c → c ≤ 6 → ∀ l h', Fr h₀ L h' m → News h₀ L h' ((l, listOf [Value.int a t1, Value.int b t2, Value.int c t3].toArray 0) :: news) → (∀ p ∈ news, p.1 < l) → Q (.ref l) { s with heap := h' }) :
    wpAny (model prog w) A (newList [.int (1 + x.fmod 6) t1, .int ((4 + y).fmod 7) t2, .int ((2 + z).fmod 7) t3]) Q E s := by
  have a1 := Int.fmod_nonneg_of_pos x (b := 6) (by decide)
  have a2 := Int.fmod_lt_of_pos x (b := 6) (by decide)
  have a3 := Int.fmod_nonneg_of_pos (4 + y) (b := 7) (by decide)
  have a4 := Int.fmod_lt_of_pos (4 + y) (b := 7) (by decide)
  have a5 := Int.fmod_nonneg_of_pos (2 + z) (b := 7) (by decide)
  have a6 := Int.fmod_lt_of_pos (2 + z) (b := 7) (by decide)
  exact newList_K F N (h _ _ _ (by omega) (by omega) a3 (by omega) a5 (by omega))
end

section
variable {prog : Program} {w : World} {A : Around} {E : Value → Shared → Prop} {s : Shared} {h₀ : Heap} {L l t : Addr} {m : Str → Option Value} {news : List (Addr × Obj)} {v : Value} {x : Int} {u : Tok} {Q : Value → Shared → Prop}

/-- the three types of iterators of this law -/
inductive ItTy : String → Prop where
  | li : ItTy "list_iterator"
  | ti : ItTy "tuple_iterator"
  | ri : ItTy "range_iterator"

theorem ItTy.noLen {T : String} (h : ItTy T) : typeLookup (.type T) (Str.ofString "__len__") = pure none := by
  cases h
  · exact PySem.F.nolen_li
  · exact PySem.F.nolen_tu
  · exact PySem.F.nolen_ra
theorem ItTy.notB {T : String} (h : ItTy T) : (Value.type T == Value.type "builtin_function_or_method") = false := by
  cases h <;> decide

theorem ItTy.msg {T : String} (h : ItTy T) : ((toString "object of type '" ++ toString (shownName T) ++ toString "' has no len()" : String) : Str).length ≤ sizeLine := by
  cases h <;> decide +kernel

theorem dm_len_raise {T : String} {it : Addr} (hA : A.handled = none) (hI : ItTy T) (hT : s.TypeIs (.ref it) T)
    (h : ∀ h' tk e, Heap.NewExc s.heap h' e "TypeError" → E (.ref e) { s with heap := h', toks := tk }) :
    wpAny (model prog w) A (call (.builtin "len") [.ref it]) Q E s := by
  refine call_function_entry kind_len plain_len entry_len (args_len1 _) ?_
  unfold Builtin.«len»
  refine wpAny_bind (m := oneArg "len" _) (wpAny_pure ?_)
  refine wpAny_bind (wpAny_callSpecial?_none (name := Str.ofString "__len__") hT hI.noLen ?_)
  dsimp only
  refine wpAny_bind (wpAny_rule ?_)
  refine wpAny_bind (wpAny_typeNameOf' hT hI.notB ?_)
  exact wpAny_raiseErrorMade plainExc_TypeError hA h hI.msg
end

theorem dm_slot_li : Slot "list_iterator" "__length_hint__" "list_iterator.__length_hint__" :=
  .of (owner := "list_iterator") (n := "__length_hint__") (by rw [typeLookup_type, builtinLookup_eq_fast]; kernel_rfl) (by decide +kernel) (by decide +kernel) (by decide +kernel)
    (by first | exact .inl (by decide +kernel) | exact .inr (by decide +kernel)) (by rw [isSubtype_type]; kernel_rfl)
theorem dm_entry_li : entryFor table "list_iterator.__length_hint__" = some Builtin.«list_iterator.__length_hint__» := entryFor_of_tree (by kernel_rfl)
theorem dm_args_li (a : Value) : argsOk "list_iterator.__length_hint__" ⟨[a], []⟩ := by unfold argsOk; kernel_rfl

theorem dm_hint_li_meets (it l : Addr) (i n k : Nat) (its : Array Value) (hn : i + n = its.size) :
    Meets (Builtin.«list_iterator.__length_hint__» ⟨[.ref it], []⟩) (fun _ R s => s.heap.get? it = some (liObj l i) ∧ s.heap.get? l = some (listOf its k) ∧ R (.ok (.ret (.int n s.toks))) { s with toks := s.toks + 1 }) :=
  .of_wp fun prog w A R s h => by
    obtain ⟨hp, g, d, tk, os⟩ := s; obtain ⟨hl, h2, h⟩ := h
    have e : (max 0 ((its.size : Int) - (i : Int))) = (n : Int) := by omega
    wp_walk
    rw [e]
    exact ⟨_, rfl, h⟩
theorem dm_hint_ti_meets (it l : Addr) (i n : Nat) (vs : List Value) (hn : i + n = vs.length) :
    Meets (Builtin.«tuple_iterator.__length_hint__» ⟨[.ref it], []⟩) (fun _ R s => s.heap.get? it = some (tiObj l i) ∧ s.heap.get? l = some (tupObj vs) ∧ R (.ok (.ret (.int n s.toks))) { s with toks := s.toks + 1 }) :=
  .of_wp fun prog w A R s h => by
    obtain ⟨hp, g, d, tk, os⟩ := s; obtain ⟨hl, h2, h⟩ := h
    have e : (max 0 ((vs.toArray.size : Int) - (i : Int))) = (n : Int) := by simp; omega
    wp_walk
    rw [e]
    exact ⟨_, rfl, h⟩
theorem dm_hint_ri_meets (it : Addr) (x n : Int)  :
    Meets (Builtin.«range_iterator.__length_hint__» ⟨[.ref it], []⟩) (fun _ R s => s.heap.get? it = some (riObj x n) ∧ R (.ok (.ret (.int n s.toks))) { s with toks := s.toks + 1 }) :=
  .of_wp fun prog w A R s h => by
    obtain ⟨hp, g, d, tk, os⟩ := s; obtain ⟨hl, h⟩ := h
    wp_walk
    exact ⟨_, rfl, h⟩

/-- the iterator at it has n things left -/
inductive Hint (h : Heap) (it : Addr) (n : Nat) : String → Prop where
  | li {l : Addr} {i k : Nat} {its : Array Value} (h1 : h.get? it = some (liObj l i)) (h2 : h.get? l = some (listOf its k)) (h3 : i + n = its.size) : Hint h it n "list_iterator"
  | ti {l : Addr} {i : Nat} {vs : List Value} (h1 : h.get? it = some (tiObj l i)) (h2 : h.get? l = some (tupObj vs)) (h3 : i + n = vs.length) : Hint h it n "tuple_iterator"
  | ri {x : Int} (h1 : h.get? it = some (riObj x n)) : Hint h it n "range_iterator"

theorem Hint.ty {h : Heap} {it : Addr} {n : Nat} {T : String} (x : Hint h it n T) : ItTy T := by
  cases x
  · exact .li
  · exact .ti
  · exact .ri
theorem Hint.typeIs {s : Shared} {it : Addr} {n : Nat} {T : String} (x : Hint s.heap it n T) : s.TypeIs (.ref it) T := by
  cases x with
  | li h1 h2 h3 => exact ⟨_, h1, rfl⟩
  | ti h1 h2 h3 => exact ⟨_, h1, rfl⟩
  | ri h1 => exact ⟨_, h1, rfl⟩
theorem Hint.keeps {h h' : Heap} {it : Addr} {n : Nat} {T : String} (x : Hint h it n T) (k : ∀ b o, h.get? b = some o → h'.get? b = some o) : Hint h' it n T := by
  cases x with
  | li h1 h2 h3 => exact .li (k _ _ h1) (k _ _ h2) h3
  | ti h1 h2 h3 => exact .ti (k _ _ h1) (k _ _ h2) h3
  | ri h1 => exact .ri (k _ _ h1)
theorem Hint.but {h h' : Heap} {it L : Addr} {n : Nat} {T : String} (x : Hint h it n T) {m : Str → Option Value} (hL : h.Ns L m) (k : ∀ b o, h.get? b = some o → b ≠ L → h'.get? b = some o) : Hint h' it n T := by
  obtain ⟨oL, es, ep, hL, hLd, _⟩ := hL
  have ne : ∀ b o, h.get? b = some o → (∀ es ep, o.data ≠ .dict es ep) → b ≠ L := fun b o e hd q => by
    rw [q, hL] at e; cases e; exact hd _ _ hLd
  cases x with
  | li h1 h2 h3 => exact .li (k _ _ h1 (ne _ _ h1 (by intro _ _ q; cases q))) (k _ _ h2 (ne _ _ h2 (by intro _ _ q; cases q))) h3
  | ti h1 h2 h3 => exact .ti (k _ _ h1 (ne _ _ h1 (by intro _ _ q; cases q))) (k _ _ h2 (ne _ _ h2 (by intro _ _ q; cases q))) h3
  | ri h1 => exact .ri (k _ _ h1 (ne _ _ h1 (by intro _ _ q; cases q)))

section
variable {prog : Program} {w : World} {A : Around} {E : Value → Shared → Prop} {s : Shared} {h₀ : Heap} {L it : Addr} {m : Str → Option Value} {K : Frag} {n : Nat} {T : String} {Q : Value → Shared → Prop}
theorem dm_hint_li (x : Hint s.heap it n "list_iterator") (h : Q (.int n s.toks) { s with toks := s.toks + 1 }) :
    wpAny (model prog w) A (call (.builtin "list_iterator.__length_hint__") [.ref it]) Q E s := by
  have hT := x.typeIs
  generalize hq : "list_iterator" = Tq at x
  cases x with
  | ti => exact absurd hq (by decide)
  | ri => exact absurd hq (by decide)
  | li h1 h2 h3 => exact call_meets dm_slot_li hT dm_entry_li (dm_args_li _) (dm_hint_li_meets _ _ _ _ _ _ h3) ⟨h1, h2, h⟩
theorem dm_hint_ti (x : Hint s.heap it n "tuple_iterator") (h : Q (.int n s.toks) { s with toks := s.toks + 1 }) :
    wpAny (model prog w) A (call (.builtin "tuple_iterator.__length_hint__") [.ref it]) Q E s := by
  have hT := x.typeIs
  generalize hq : "tuple_iterator" = Tq at x
  cases x with
  | li => exact absurd hq (by decide)
  | ri => exact absurd hq (by decide)
  | ti h1 h2 h3 => exact call_meets PySem.F.slot_tuple_iterator_length_hint hT PySem.F.entry_tuple_iterator_length_hint (PySem.F.args_tuple_iterator_length_hint_1 _) (dm_hint_ti_meets _ _ _ _ _ h3) ⟨h1, h2, h⟩
theorem dm_hint_ri (x : Hint s.heap it n "range_iterator") (h : Q (.int n s.toks) { s with toks := s.toks + 1 }) :
    wpAny (model prog w) A (call (.builtin "range_iterator.__length_hint__") [.ref it]) Q E s := by
  have hT := x.typeIs
  generalize hq : "range_iterator" = Tq at x
  cases x with
  | li => exact absurd hq (by decide)
  | ti => exact absurd hq (by decide)
  | ri h1 => exact call_meets PySem.F.slot_range_iterator_length_hint hT PySem.F.entry_range_iterator_length_hint (PySem.F.args_range_iterator_length_hint_1 _) (dm_hint_ri_meets _ _ _) ⟨h1, h⟩

theorem dm_attr {id : String} {expr : Bool} (F : Fr h₀ L s.heap m) (X₀ : K.In h₀) (ht : kitMeta T = true) (hs : Manifest.isStub T = false)
    (e : findCls K (.type T) (.type "type") "__length_hint__" = some (.val (.builtin id))) (hh : handedIn (.builtin id) = true)
    (h : Q (.builtin id) { s with toks := s.toks + 1 }) : wpAny (model prog w) A (getAttr (.type T) "__length_hint__" expr) Q E s := by
  have X := X₀.keeps F.keep
  have hstub : opaqueClassAbove (.type T) = pure none := by unfold opaqueClassAbove; dsimp only; rw [hs]; rfl
  have L0 : Looks (model prog w) s.heap (typeOf (.type T)) (.type "type") := Looks.of_pure (kitMeta_of ht)
  have LO : Looks (model prog w) s.heap (opaqueClassAbove (.type T)) none := Looks.of_pure hstub
  have hg : findIn K (.type "type") "__getattribute__" = some (some (.builtin "type.__getattribute__")) := type_tga
  refine cls_open X LO L0 hg (looks_hook X (r := none) (by rfl)) (by show subIn K _ _ = _; rfl) e ?_
  exact wpAny_pure (handed_on hh h)
end

def DmLeave (s : Shared) (h₀ : Heap) (L : Addr) (m : Str → Option Value) (g : Heap) (oL : Obj) (R : Result → Shared → Prop) (fl : Flow) (s' : Shared) : Prop :=
  ∃ h' tk v m' sl, s' = { s with heap := h', toks := tk } ∧ Fr g s.heap.objs.size h' m' ∧ News g s.heap.objs.size h' [(L, { oL with slots := sl })] ∧ fl = .ret v ∧
          ((∀ b o, s.heap.get? b = some o → b ≠ L → h'.get? b = some o) → Fr h₀ L h' m → R (.ok (.ret v)) s')

/-- entering a def from a frame that is the only one: everything but the caller's frame is the ground -/
theorem dm_enter {prog : Program} {w : World} {s : Shared} {h₀ : Heap} {L : Addr} {m : Str → Option Value} {env : Env} {K : Frag} {p : Program} {loose : List Str} {mean : ExcName → Option Value} {mg mb : Str → Option Value}
    {R : Result → Shared → Prop} {name qual : Str} {params : Arguments} {body : List Stmt} {scope : Scope} {dV kV doc pm cdv ct oc : Value} {an od : Option Addr} {osl : Array (Option Value)} {f : Addr} {args : Args} {binds : List (Str × Value)}
    (F : Fr h₀ L s.heap m) (X₀ : K.In h₀) (T : Top p loose mean mg mb h₀) (hf : env.frame = some L) (hke : env.scope.kind = .function)
    (ho : K.lookup f = some ⟨oc, od, .func (fnOf name qual params body scope dV kV doc pm an cdv ct), osl⟩) (hcd : codeIn K cdv qual = true) (hroom : (callerA.deeper env).depth < recursionLimit)
    (hbind : BindsTo s (fnOf name qual params body scope dV kV doc pm an cdv ct) args binds) (hloc : ∀ y ∈ binds, scope.names.lookup y.1 = some .local)
    (h : ∀ (g : Heap) (oL : Obj) (h₁ : Heap), (∀ b o, s.heap.get? b = some o → b ≠ L → g.get? b = some o) → K.In g → Top p loose mean mg mb g → TI.Frs [env] [(L, oL)] →
      Fr g s.heap.objs.size h₁ (fun y => binds.reverse.lookup y) → News g s.heap.objs.size h₁ [(L, oL)] →
      wpAny (model prog w) ((callerA.deeper env).deeper (envOf qual scope s.heap.objs.size f cdv)) (execs body (envOf qual scope s.heap.objs.size f cdv))
        (DmLeave s h₀ L m g oL R)
        (fun _ _ => False)
        { s with heap := h₁, toks := s.toks + binds.length })
    (hco : scope.isCoroutine = false := by rfl) (hgen : scope.isGenerator = false := by rfl) (hk : scope.kind = .function := by rfl)
    (hcell : ∀ x ∈ scope.names, x.2 ≠ .cell := by decide) : codeAny (model prog w) (callerA.deeper env) (.call (.ref f) args) R s := by
  have X := X₀.keeps F.keep
  obtain ⟨oL, es, ep, hL, hLd, hLk, hLf⟩ := F.ns
  have hLt := Heap.lt_size hL
  have hkind : env.scope.kind ≠ .module := by rw [hke]; decide
  have hnL : h₀.get? L = none := Heap.get?_none_of_le F.above
  have up0 : ∀ b o, h₀.get? b = some o → (TI.gone s.heap [L]).get? b = some o := fun b o e => by
    have hb : b ≠ L := fun q => by rw [q, hnL] at e; cases e
    rw [TI.gone_get (by simpa using hb)]
    exact F.keep b o e
  refine codeAny_call_def (fd := fnOf name qual params body scope dV kV doc pm an cdv ct) (body := body) (binds := binds) hroom (X _ _ ho) rfl (T.nolimit.keeps F.keep) (codeRec_of X hcd) rfl hbind hcell hloc (fun h₁ hns hk₁ => ?_) hco hgen hk
  refine wpAny_mono (h (TI.gone s.heap [L]) oL h₁ (fun b o e hb => ?_) (X₀.keeps up0) (T.keeps up0) ⟨hkind, hf, ⟨es, ep, hLd⟩, trivial⟩
    ⟨hns, fun b o e => hk₁ b o (TI.gone_some e).2, ?_⟩ (fun p hp => ?_)) (fun fl s' q => ?_) fun _ _ q => q.elim
  · rw [TI.gone_get (by simpa using hb)]; exact e
  · show (TI.gone s.heap [L]).objs.size ≤ s.heap.objs.size
    simp [TI.gone, Heap.update]
  · rw [List.mem_singleton.mp hp]
    exact ⟨hk₁ _ _ hL, Nat.ne_of_lt hLt, TI.gone_none (by simp)⟩
  · obtain ⟨h', tk, v, m', sl, rfl, F', N', rfl, r⟩ := q
    have hL' : h'.get? L = some { oL with slots := sl } := (N' _ (.head _)).1
    exact r (fun b o e hb => F'.keep b o (by rw [TI.gone_get (by simpa using hb)]; exact e)) ⟨⟨_, es, ep, hL', hLd, hLk, hLf⟩, fun b o e => F'.keep b o (up0 b o e), F.above⟩

section
local macro_rules | `(tactic| walk_at "call builtin:len") => `(tactic| (k_here; (with_reducible show wpAny _ _ (call (Value.builtin "len") [Value.ref _]) _ _ _); k_dflt (refine dm_len_raise (by with_unfolding_all rfl) (Hint.ty (by assumption)) (Hint.typeIs (Hint.keeps (by assumption) (Fr.keep (by k_asm)))) ?_); intro h' tk' e' x'))
local macro_rules | `(tactic| walk_at "noteFrame ref") => `(tactic| (k_here; (with_reducible rename Heap.NewExc _ _ _ _ => tiX'); k_dflt (refine TLg.noted_new1 (new := []) (by rfl) (by assumption) tiX' (by assumption) (by assumption) (by exact True.intro) ?_); clear tiX'; intro h' sl' tiF' tiH'; (try simp only [List.nil_append, List.cons_append] at tiH'); have tiHH' := TT.HeldNA.held tiH'))
local macro_rules | `(tactic| walk_at "call type:type") => `(tactic| (k_here; (with_reducible show wpAny _ _ (call (Value.type "type") [Value.ref _]) _ _ _); k_dflt (refine call_type_of (Hint.typeIs (Hint.keeps (by assumption) (Fr.keep (by k_asm)))) (by decide) ?_)))
local macro_rules | `(tactic| walk_at "getAttr") => `(tactic| (k_here; (with_reducible show wpAny _ _ (getAttr (Value.type _) (PySem.Str.ofString "__length_hint__") _) _ _ _); k_dflt (refine' dm_attr ?F ?X ?t ?s ?e ?q ?_; (case F => k_asm); (case X => k_asm); (case t => decide +kernel); (case s => decide +kernel); (case e => k_is); (case q => decide +kernel); k_whole)))
local macro_rules | `(tactic| walk_at "call builtin:list_iterator.__length_hint__") => `(tactic| (k_here; k_dflt (refine dm_hint_li (Hint.keeps (by assumption) (Fr.keep (by k_asm))) ?_)))
local macro_rules | `(tactic| walk_at "call builtin:tuple_iterator.__length_hint__") => `(tactic| (k_here; k_dflt (refine dm_hint_ti (Hint.keeps (by assumption) (Fr.keep (by k_asm))) ?_)))
local macro_rules | `(tactic| walk_at "call builtin:range_iterator.__length_hint__") => `(tactic| (k_here; k_dflt (refine dm_hint_ri (Hint.keeps (by assumption) (Fr.keep (by k_asm))) ?_)))
local macro_rules | `(tactic| walk_at "compareOp Is") => `(tactic| (k_here; (with_reducible show wpAny _ _ (compareOp CmpOp.Is (Value.int _ _) Value.notImplemented) _ _ _); refine wpAny_is_other (by rfl) (by intro x; cases x) ?_))

set_option maxHeartbeats 4000000 in
theorem lh_call {w : World} {s : Shared} {h₀ : Heap} {L it : Addr} {n : Nat} {Ti : String} {m mg mb : Str → Option Value} {mean : ExcName → Option Value} {env : Env} {E : Value → Shared → Prop} {Q : Value → Shared → Prop} {u : Tok}
    (F : Fr h₀ L s.heap m) (X₀ : (hd.heap_39 w.params).In h₀) (T : Top hd.view_39 (looseW hd.view_39 [Str.ofString "length_hint"]) mean mg mb h₀) (hf : env.frame = some L) (hke : env.scope.kind = .function)
    (hit : Hint s.heap it n Ti)
    (h : ∀ h' tk u', (∀ b o, s.heap.get? b = some o → b ≠ L → h'.get? b = some o) → Fr h₀ L h' m → Q (.int n u') { s with heap := h', toks := tk }) :
    wpAny (model PySem.Challenge.rw_dm0224_01.row.prog w) (callerA.deeper env) (call (.ref 22) [.ref it, .int (-1) u]) Q E s := by
  revert X₀
  k_fill
  intro X₀
  refine wpAny_call (dm_enter F X₀ T hf hke (by k_is) (by k_is) (by k_room) (by first | exact BindsTo.of_eq rfl | exact binds_K (by k_in) rfl (by k_is) rfl rfl rfl) (locs rfl) ?_)
  intro g oL h₁ up XG TG Fs F' N'
  have git := hit.but F.ns up
  have ht := hit.ty
  clear F X₀ T hit
  dsimp only
  cases ht
  all_goals k_steps
  all_goals exact ⟨_, _, _, _, _, rfl, by assumption, by assumption, rfl, fun a b => h _ _ _ a b⟩
end

section
variable {w : World} {s : Shared} {h₀ : Heap} {L it l : Addr} {i k : Nat} {x y z : Int} {v : Value} {m mg mb : Str → Option Value} {mean : ExcName → Option Value} {env : Env} {E : Value → Shared → Prop} {Q : Value → Shared → Prop} {u : Tok} {news : List (Addr × Obj)}

theorem lh_N {Ti : String} (F : Fr h₀ L s.heap m) (X₀ : (hd.heap_39 w.params).In h₀) (T : Top hd.view_39 (looseW hd.view_39 [Str.ofString "length_hint"]) mean mg mb h₀) (N : News h₀ L s.heap news) (hf : env.frame = some L) (hke : env.scope.kind = .function)
    (h0 : 0 ≤ x) (hit : Hint s.heap it x.toNat Ti)
    (h : ∀ h' tk u', Fr h₀ L h' m → News h₀ L h' news → Q (.int x u') { s with heap := h', toks := tk }) :
    wpAny (model PySem.Challenge.rw_dm0224_01.row.prog w) (callerA.deeper env) (call (.ref 22) [.ref it, .int (-1) u]) Q E s := by
  refine lh_call F X₀ T hf hke hit fun h' tk u' up F' => ?_
  rw [Int.toNat_of_nonneg h0]
  exact h h' tk u' F' fun p hp => ⟨up _ _ (N p hp).1 (N p hp).2.1, (N p hp).2⟩
theorem lh_li (F : Fr h₀ L s.heap m) (X₀ : (hd.heap_39 w.params).In h₀) (T : Top hd.view_39 (looseW hd.view_39 [Str.ofString "length_hint"]) mean mg mb h₀) (N : News h₀ L s.heap news) (hf : env.frame = some L) (hke : env.scope.kind = .function)
    (h1 : (it, liObj l i) ∈ news) (h2 : (l, listOf (List.replicate z.toNat v).toArray k) ∈ news) (h3 : (i : Int) + x = z) (h0 : 0 ≤ x)
    (h : ∀ h' tk u', Fr h₀ L h' m → News h₀ L h' news → Q (.int x u') { s with heap := h', toks := tk }) :
    wpAny (model PySem.Challenge.rw_dm0224_01.row.prog w) (callerA.deeper env) (call (.ref 22) [.ref it, .int (-1) u]) Q E s :=
  lh_N F X₀ T N hf hke h0 (.li (N _ h1).1 (N _ h2).1 (by simp; omega)) h
theorem lh_ti (F : Fr h₀ L s.heap m) (X₀ : (hd.heap_39 w.params).In h₀) (T : Top hd.view_39 (looseW hd.view_39 [Str.ofString "length_hint"]) mean mg mb h₀) (N : News h₀ L s.heap news) (hf : env.frame = some L) (hke : env.scope.kind = .function)
    (h1 : (it, tiObj l i) ∈ news) (h2 : (l, tupObj (List.replicate z.toNat v)) ∈ news) (h3 : (i : Int) + x = z) (h0 : 0 ≤ x)
    (h : ∀ h' tk u', Fr h₀ L h' m → News h₀ L h' news → Q (.int x u') { s with heap := h', toks := tk }) :
    wpAny (model PySem.Challenge.rw_dm0224_01.row.prog w) (callerA.deeper env) (call (.ref 22) [.ref it, .int (-1) u]) Q E s :=
  lh_N F X₀ T N hf hke h0 (.ti (N _ h1).1 (N _ h2).1 (by simp; omega)) h
theorem lh_ri (F : Fr h₀ L s.heap m) (X₀ : (hd.heap_39 w.params).In h₀) (T : Top hd.view_39 (looseW hd.view_39 [Str.ofString "length_hint"]) mean mg mb h₀) (N : News h₀ L s.heap news) (hf : env.frame = some L) (hke : env.scope.kind = .function)
    (h1 : (it, riObj y x) ∈ news) (h0 : 0 ≤ x)
    (h : ∀ h' tk u', Fr h₀ L h' m → News h₀ L h' news → Q (.int x u') { s with heap := h', toks := tk }) :
    wpAny (model PySem.Challenge.rw_dm0224_01.row.prog w) (callerA.deeper env) (call (.ref 22) [.ref it, .int (-1) u]) Q E s := by
  have e : ((x.toNat : Nat) : Int) = x := Int.toNat_of_nonneg h0
  refine lh_N F X₀ T N hf hke h0 (.ri (x := y) ?_) h
  rw [e]
  exact (N _ h1).1
end

theorem dm_compEnd {h₀ : Heap} {L I C D : Addr} {m : Str → Option Value} {s₁ : Shared} {oI oC oD : Obj} {S : List (Addr × Obj) → Prop} {rest : Value → List (Addr × Obj) → Prop} {y : Value} {h' : Heap} {tk : Nat} {news' : List (Addr × Obj)}
    (F : Fr h₀ L h' m) (N : News h₀ L h' ((I, oI) :: (C, oC) :: (D, oD) :: news')) (off : LCg.Off3 I C D news') (hS : S news') (r : rest y news') :
    LCg.CompEnd h₀ L m s₁ I oI C oC D oD S rest y { s₁ with heap := h', toks := tk } := ⟨h', tk, news', rfl, F, N, off, hS, r⟩
theorem dm_off1 {D a : Addr} {o : Obj} : ∀ {l : List (Addr × Obj)}, LCg.Off1 D l → (a, o) ∈ l → a ≠ D
  | [], _, h => nomatch h
  | _ :: _, x, h => by
    rcases List.mem_cons.mp h with e | h
    · have := x.1; rw [← e] at this; exact this
    · exact dm_off1 x.2 h

def lawBody : List Stmt := match PySem.Challenge.pw_dm0224_01.main.body with
  | [_, _, _, .FunctionDef _ _ b _ _ _ _ _ _ _] => b
  | _ => []
def lawScope : Scope := match PySem.Challenge.pw_dm0224_01.main.body with
  | [_, _, _, .FunctionDef _ _ _ _ _ _ sc _ _ _] => sc
  | _ => { kind := .function, names := [], isGenerator := false, isCoroutine := false }
abbrev lawEnv (L fa : Addr) (cd : Value) : Env := envOfC (Str.ofString "law") lawScope L fa cd
def lawTail : List Stmt := lawBody.drop 4
def lawWhile : List Stmt := lawBody.drop 8
def lawTest : Expr := match lawWhile with
  | .While t _ _ _ :: _ => t
  | _ => .Name (Str.ofString "x") ⟨0, 0, 0, 0⟩
def lawTurn : List Stmt := match lawWhile with
  | .While _ b _ _ :: _ => b
  | _ => []
def lawIf : Stmt := match lawTurn with
  | s :: _ => s
  | _ => .Pass ⟨0, 0, 0, 0⟩
def lawRest : List Stmt := lawTurn.drop 1
def lawReturn : Stmt := match lawWhile with
  | [_, s] => s
  | _ => .Pass ⟨0, 0, 0, 0⟩
def lawWhileStmt : Stmt := match lawWhile with
  | s :: _ => s
  | _ => .Pass ⟨0, 0, 0, 0⟩
def lawInit : List Stmt := lawTail.take 4

abbrev xr (x y : Int) : Int := Builtin.bitXor x y

theorem small_cases {A : Int} (h0 : 0 ≤ A) (h3 : A ≤ 3) : A ∈ ([0, 1, 2, 3] : List Int) := by
  have : A = 0 ∨ A = 1 ∨ A = 2 ∨ A = 3 := by omega
  rcases this with rfl | rfl | rfl | rfl <;> decide
theorem xor_all : ∀ A ∈ ([0, 1, 2, 3] : List Int), ∀ B ∈ ([0, 1, 2, 3] : List Int), ∀ C ∈ ([0, 1, 2, 3] : List Int),
    (0 ≤ xr A (xr (xr A B) C) ∧ 0 ≤ xr B (xr (xr A B) C) ∧ 0 ≤ xr C (xr (xr A B) C)) ∧
    (xr (xr A B) C ≠ 0 → xr A (xr (xr A B) C) < A ∨ xr B (xr (xr A B) C) < B ∨ xr C (xr (xr A B) C) < C) ∧
    (xr (xr (xr A (xr (xr A B) C)) B) C = 0 ∧ xr (xr A (xr B (xr (xr A B) C))) C = 0 ∧ xr (xr A B) (xr C (xr (xr A B) C)) = 0) := by
  decide +kernel
theorem xor_other : ∀ A ∈ ([0, 1, 2, 3] : List Int), ∀ B ∈ ([0, 1, 2, 3] : List Int), ∀ C ∈ ([0, 1, 2, 3] : List Int), ∀ D ∈ ([0, 1, 2, 3] : List Int),
    xr (xr A B) C = 0 → (D ≠ A → xr (xr D B) C ≠ 0) ∧ (D ≠ B → xr (xr A D) C ≠ 0) ∧ (D ≠ C → xr (xr A B) D ≠ 0) := by
  decide +kernel
theorem xor_zero : xr (xr 0 0) 0 = 0 := by decide +kernel

/-- the heap's number by one more than the most -/
theorem fm_facts {x most : Int} (h0 : 0 ≤ x) (h1 : 1 ≤ most) (h3 : most ≤ 3) : 0 ≤ x.fmod (most + 1) ∧ x.fmod (most + 1) ≤ most ∧ x.fmod (most + 1) ≤ x := by
  have : most = 1 ∨ most = 2 ∨ most = 3 := by omega
  rw [Int.fmod_eq_emod_of_nonneg x (by omega)]
  rcases this with rfl | rfl | rfl <;> omega
theorem fm_take {x most t : Int} (h1 : 1 ≤ most) (h3 : most ≤ 3) (ht : 0 ≤ t) (hA : t ≤ x.fmod (most + 1)) : (x - t).fmod (most + 1) = x.fmod (most + 1) - t := by
  have : most = 1 ∨ most = 2 ∨ most = 3 := by omega
  rw [Int.fmod_eq_emod_of_nonneg x (by omega)] at *
  rw [Int.fmod_eq_emod_of_nonneg _ (by omega)]
  rcases this with rfl | rfl | rfl <;> omega
theorem fm_other {x most t : Int} (h1 : 1 ≤ most) (h3 : most ≤ 3) (ht : 1 ≤ t) (hA : t ≤ most) : (x - t).fmod (most + 1) ≠ x.fmod (most + 1) := by
  have : most = 1 ∨ most = 2 ∨ most = 3 := by omega
  rw [Int.fmod_eq_emod_of_nonneg x (by omega), Int.fmod_eq_emod_of_nonneg _ (by omega)]
  rcases this with rfl | rfl | rfl <;> omega
theorem fm_zero {most : Int} (h1 : 1 ≤ most) : (0 : Int).fmod (most + 1) = 0 := Int.zero_fmod _

abbrev G3 (most a b c : Int) : Int := xr (xr (a.fmod (most + 1)) (b.fmod (most + 1))) (c.fmod (most + 1))
def Good (mine : Bool) (g : Int) : Prop := if mine = true then g = 0 else g ≠ 0
def Pick (mine : Bool) (most a b c k cnt : Int) : Prop :=
  1 ≤ cnt ∧ cnt ≤ 3 ∧ ((k = 0 ∧ cnt ≤ a ∧ Good mine (G3 most (a - cnt) b c)) ∨ (k = 1 ∧ cnt ≤ b ∧ Good mine (G3 most a (b - cnt) c)) ∨ (k = 2 ∧ cnt ≤ c ∧ Good mine (G3 most a b (c - cnt))))

theorem mine_all {most a b c : Int} (h1 : 1 ≤ most) (h3 : most ≤ 3) (ha : 0 ≤ a) (hb : 0 ≤ b) (hc : 0 ≤ c) :
    (0 ≤ xr (a.fmod (most + 1)) (G3 most a b c) ∧ 0 ≤ xr (b.fmod (most + 1)) (G3 most a b c) ∧ 0 ≤ xr (c.fmod (most + 1)) (G3 most a b c)) ∧
    (G3 most a b c ≠ 0 → xr (a.fmod (most + 1)) (G3 most a b c) < a.fmod (most + 1) ∨ xr (b.fmod (most + 1)) (G3 most a b c) < b.fmod (most + 1) ∨ xr (c.fmod (most + 1)) (G3 most a b c) < c.fmod (most + 1)) ∧
    (xr (xr (xr (a.fmod (most + 1)) (G3 most a b c)) (b.fmod (most + 1))) (c.fmod (most + 1)) = 0 ∧ xr (xr (a.fmod (most + 1)) (xr (b.fmod (most + 1)) (G3 most a b c))) (c.fmod (most + 1)) = 0 ∧
      xr (xr (a.fmod (most + 1)) (b.fmod (most + 1))) (xr (c.fmod (most + 1)) (G3 most a b c)) = 0) := by
  obtain ⟨p1, p2, _⟩ := fm_facts ha h1 h3
  obtain ⟨q1, q2, _⟩ := fm_facts hb h1 h3
  obtain ⟨r1, r2, _⟩ := fm_facts hc h1 h3
  exact xor_all _ (small_cases p1 (by omega)) _ (small_cases q1 (by omega)) _ (small_cases r1 (by omega))
theorem mine_pick0 {most a b c : Int} (h1 : 1 ≤ most) (h3 : most ≤ 3) (ha : 0 ≤ a) (hb : 0 ≤ b) (hc : 0 ≤ c)
    (hlt : xr (a.fmod (most + 1)) (G3 most a b c) < a.fmod (most + 1)) : Pick true most a b c 0 (a.fmod (most + 1) - xr (a.fmod (most + 1)) (G3 most a b c)) := by
  obtain ⟨⟨x0, _, _⟩, _, ⟨x1, _, _⟩⟩ := mine_all h1 h3 ha hb hc
  obtain ⟨p1, p2, p3⟩ := fm_facts ha h1 h3
  refine ⟨by omega, by omega, Or.inl ⟨rfl, by omega, ?_⟩⟩
  show G3 _ _ _ _ = 0
  have e := fm_take (x := a) (most := most) (t := a.fmod (most + 1) - xr (a.fmod (most + 1)) (G3 most a b c)) h1 h3 (by omega) (by omega)
  unfold G3 at *
  rw [e, show ∀ x y : Int, x - (x - y) = y from fun x y => by omega]
  exact x1
theorem mine_pick1 {most a b c : Int} (h1 : 1 ≤ most) (h3 : most ≤ 3) (ha : 0 ≤ a) (hb : 0 ≤ b) (hc : 0 ≤ c)
    (hlt : xr (b.fmod (most + 1)) (G3 most a b c) < b.fmod (most + 1)) : Pick true most a b c 1 (b.fmod (most + 1) - xr (b.fmod (most + 1)) (G3 most a b c)) := by
  obtain ⟨⟨_, x0, _⟩, _, ⟨_, x1, _⟩⟩ := mine_all h1 h3 ha hb hc
  obtain ⟨p1, p2, p3⟩ := fm_facts hb h1 h3
  refine ⟨by omega, by omega, Or.inr (Or.inl ⟨rfl, by omega, ?_⟩)⟩
  show G3 _ _ _ _ = 0
  have e := fm_take (x := b) (most := most) (t := b.fmod (most + 1) - xr (b.fmod (most + 1)) (G3 most a b c)) h1 h3 (by omega) (by omega)
  unfold G3 at *
  rw [e, show ∀ x y : Int, x - (x - y) = y from fun x y => by omega]
  exact x1
theorem mine_pick2 {most a b c : Int} (h1 : 1 ≤ most) (h3 : most ≤ 3) (ha : 0 ≤ a) (hb : 0 ≤ b) (hc : 0 ≤ c)
    (hlt : xr (c.fmod (most + 1)) (G3 most a b c) < c.fmod (most + 1)) : Pick true most a b c 2 (c.fmod (most + 1) - xr (c.fmod (most + 1)) (G3 most a b c)) := by
  obtain ⟨⟨_, _, x0⟩, _, ⟨_, _, x1⟩⟩ := mine_all h1 h3 ha hb hc
  obtain ⟨p1, p2, p3⟩ := fm_facts hc h1 h3
  refine ⟨by omega, by omega, Or.inr (Or.inr ⟨rfl, by omega, ?_⟩)⟩
  show G3 _ _ _ _ = 0
  have e := fm_take (x := c) (most := most) (t := c.fmod (most + 1) - xr (c.fmod (most + 1)) (G3 most a b c)) h1 h3 (by omega) (by omega)
  unfold G3 at *
  rw [e, show ∀ x y : Int, x - (x - y) = y from fun x y => by omega]
  exact x1
theorem mine_no0 {most a b c : Int} (h1 : 1 ≤ most) (h3 : most ≤ 3) (ha : 0 ≤ a) (hb : 0 ≤ b) (hc : 0 ≤ c) (h : a < a.fmod (most + 1) - xr (a.fmod (most + 1)) (G3 most a b c)) : False := by
  obtain ⟨⟨x0, _, _⟩, _, _⟩ := mine_all h1 h3 ha hb hc
  obtain ⟨p1, p2, p3⟩ := fm_facts ha h1 h3
  omega
theorem mine_no1 {most a b c : Int} (h1 : 1 ≤ most) (h3 : most ≤ 3) (ha : 0 ≤ a) (hb : 0 ≤ b) (hc : 0 ≤ c) (h : b < b.fmod (most + 1) - xr (b.fmod (most + 1)) (G3 most a b c)) : False := by
  obtain ⟨⟨_, x0, _⟩, _, _⟩ := mine_all h1 h3 ha hb hc
  obtain ⟨p1, p2, p3⟩ := fm_facts hb h1 h3
  omega
theorem mine_no2 {most a b c : Int} (h1 : 1 ≤ most) (h3 : most ≤ 3) (ha : 0 ≤ a) (hb : 0 ≤ b) (hc : 0 ≤ c) (h : c < c.fmod (most + 1) - xr (c.fmod (most + 1)) (G3 most a b c)) : False := by
  obtain ⟨⟨_, _, x0⟩, _, _⟩ := mine_all h1 h3 ha hb hc
  obtain ⟨p1, p2, p3⟩ := fm_facts hc h1 h3
  omega
theorem mine_none {most a b c : Int} (h1 : 1 ≤ most) (h3 : most ≤ 3) (ha : 0 ≤ a) (hb : 0 ≤ b) (hc : 0 ≤ c) (hG : G3 most a b c ≠ 0) (n0 : ¬ xr (a.fmod (most + 1)) (G3 most a b c) < a.fmod (most + 1))
    (n1 : ¬ xr (b.fmod (most + 1)) (G3 most a b c) < b.fmod (most + 1)) (n2 : ¬ xr (c.fmod (most + 1)) (G3 most a b c) < c.fmod (most + 1)) : False := by
  obtain ⟨_, q, _⟩ := mine_all h1 h3 ha hb hc
  rcases q hG with h | h | h
  · exact n0 h
  · exact n1 h
  · exact n2 h
theorem other_pick {most a b c : Int} (h1 : 1 ≤ most) (h3 : most ≤ 3) (ha : 0 ≤ a) (hb : 0 ≤ b) (hc : 0 ≤ c) (hG : G3 most a b c = 0) {k t : Int} (ht : 1 ≤ t) (htm : t ≤ most)
    (hk : (k = 0 ∧ t ≤ a) ∨ (k = 1 ∧ t ≤ b) ∨ (k = 2 ∧ t ≤ c)) : Pick false most a b c k t := by
  obtain ⟨p1, p2, _⟩ := fm_facts ha h1 h3
  obtain ⟨q1, q2, _⟩ := fm_facts hb h1 h3
  obtain ⟨r1, r2, _⟩ := fm_facts hc h1 h3
  have sA := small_cases p1 (by omega)
  have sB := small_cases q1 (by omega)
  have sC := small_cases r1 (by omega)
  refine ⟨ht, by omega, ?_⟩
  rcases hk with ⟨rfl, h⟩ | ⟨rfl, h⟩ | ⟨rfl, h⟩
  · obtain ⟨d1, d2, _⟩ := fm_facts (x := a - t) (by omega) h1 h3
    exact Or.inl ⟨rfl, h, (xor_other _ sA _ sB _ sC _ (small_cases d1 (by omega)) hG).1 (fm_other h1 h3 ht htm)⟩
  · obtain ⟨d1, d2, _⟩ := fm_facts (x := b - t) (by omega) h1 h3
    exact Or.inr (Or.inl ⟨rfl, h, (xor_other _ sA _ sB _ sC _ (small_cases d1 (by omega)) hG).2.1 (fm_other h1 h3 ht htm)⟩)
  · obtain ⟨d1, d2, _⟩ := fm_facts (x := c - t) (by omega) h1 h3
    exact Or.inr (Or.inr ⟨rfl, h, (xor_other _ sA _ sB _ sC _ (small_cases d1 (by omega)) hG).2.2 (fm_other h1 h3 ht htm)⟩)

section
variable {prog : Program} {w : World} {A : Around} {E : Value → Shared → Prop} {s : Shared} {x y most : Int} {t u : Tok} {Q : Value → Shared → Prop}
theorem dm_mod (h0 : 0 ≤ x) (h1 : 1 ≤ most) (h3 : most ≤ 3) (h : ∀ r, r = x.fmod (most + 1) → 0 ≤ r → r ≤ most → r ≤ x → Q (.int r s.toks) { s with toks := s.toks + 1 }) :
    wpAny (model prog w) A (binaryOp .Mod (.int x t) (.int (most + 1) u)) Q E s :=
  PyProof.Rows.mod_int (by omega) (h _ rfl (fm_facts h0 h1 h3).1 (fm_facts h0 h1 h3).2.1 (fm_facts h0 h1 h3).2.2)
theorem dm_xor (h : ∀ r, r = xr x y → Q (.int r s.toks) { s with toks := s.toks + 1 }) :
    wpAny (model prog w) A (binaryOp .BitXor (.int x t) (.int y u)) Q E s := PyProof.Rows.xor_int (h _ rfl)
end

/-- the frame's names between two turns -/
abbrev gameMap (m : Str → Option Value) (aHands aNums : Nat) (turn : Int) (tt : Tok) (mine last : Bool) : Str → Option Value := fun y =>
  if y = Str.ofString "turn" then some (.int turn tt) else if y = Str.ofString "mine" then some (.bool mine) else if y = Str.ofString "last" then some (.bool last)
  else if y = Str.ofString "hands" then some (.ref aHands) else if y = Str.ofString "numbers" then some (.ref aNums) else m y
/-- the frame's names behind the pick -/
abbrev pickMap (m : Str → Option Value) (aHands aNums : Nat) (turn : Int) (tt : Tok) (mine last : Bool) (k cnt : Int) (tk tc : Tok) : Str → Option Value := fun y =>
  if y = Str.ofString "count" then some (.int cnt tc) else if y = Str.ofString "k" then some (.int k tk) else
  if y = Str.ofString "turn" then some (.int turn tt) else if y = Str.ofString "mine" then some (.bool mine) else if y = Str.ofString "last" then some (.bool last)
  else if y = Str.ofString "hands" then some (.ref aHands) else if y = Str.ofString "numbers" then some (.ref aNums) else m y
/-- the ledger between two turns (c2: what is left in the third iterator) -/
abbrev gameNewsG (L aHands aNums aHeaps i0 i1 i2 ls tp : Nat) (n0 n1 : Int) (v0 v1 : Value) (ws : List Value) (a b c : Int) (t0 t1 t2 : Tok) (e j0 j1 : Nat) (x2 c2 : Int) (oW oT oH oM : Obj) : List (Addr × Obj) :=
  [(aHands, listOf [Value.ref i0, Value.ref i1, Value.ref i2].toArray 0), (i2, riObj x2 c2), (i1, tiObj tp j1), (tp, tupObj (List.replicate n1.toNat v1)), (i0, liObj ls j0), (ls, listOf (List.replicate n0.toNat v0).toArray 0),
      (aHeaps, listOf [Value.int a t0, Value.int b t1, Value.int c t2].toArray e), (aNums, listOf ws.toArray 0), (L + 1 + 1 + 1 + 1, oW), (L + 1 + 1 + 1, oT), (L + 1 + 1, oH), (L + 1, oM)]
abbrev gameNews (L aHands aNums aHeaps i0 i1 i2 ls tp : Nat) (n0 n1 : Int) (v0 v1 : Value) (ws : List Value) (a b c : Int) (t0 t1 t2 : Tok) (e j0 j1 : Nat) (x2 : Int) (oW oT oH oM : Obj) : List (Addr × Obj) :=
  gameNewsG L aHands aNums aHeaps i0 i1 i2 ls tp n0 n1 v0 v1 ws a b c t0 t1 t2 e j0 j1 x2 c oW oT oH oM
abbrev gameChain (L aHands aNums aHeaps i0 i1 i2 ls tp : Nat) : Prop :=
  L + 1 + 1 + 1 + 1 < aNums ∧ aNums < aHeaps ∧ aHeaps < ls ∧ ls < i0 ∧ i0 < tp ∧ tp < i1 ∧ i1 < i2 ∧ i2 < aHands

def Game (h₀ : Heap) (L aHands aNums aHeaps i0 i1 i2 ls tp : Nat) (n0 n1 : Int) (v0 v1 : Value) (ws : List Value) (oH oM : Obj) (a b c : Int) (mine last : Bool) (h : Heap) : Prop :=
  ∃ (m : Str → Option Value) (t0 t1 t2 tt : Tok) (e j0 j1 : Nat) (x2 turn : Int) (oW oT : Obj) (cW cT : Option Value),
    Fr h₀ L h (gameMap m aHands aNums turn tt mine last) ∧ News h₀ L h (gameNews L aHands aNums aHeaps i0 i1 i2 ls tp n0 n1 v0 v1 ws a b c t0 t1 t2 e j0 j1 x2 oW oT oH oM) ∧
    oW.data = .cell cW ∧ oT.data = .cell cT ∧ (j0 : Int) + a = n0 ∧ (j1 : Int) + b = n1
def TurnPost (h₀ : Heap) (L aHands aNums aHeaps i0 i1 i2 ls tp : Nat) (n0 n1 : Int) (v0 v1 : Value) (ws : List Value) (oH oM : Obj) (a b c : Int) (mine : Bool) (s : Shared) (fl : Flow) (s' : Shared) : Prop :=
  fl = .next ∧ ∃ h' tk, s' = { s with heap := h', toks := tk } ∧ Game h₀ L aHands aNums aHeaps i0 i1 i2 ls tp n0 n1 v0 v1 ws oH oM a b c (!mine) mine h'

theorem fr_game {h₀ h : Heap} {L : Addr} {M : Str → Option Value} {aHands aNums : Nat} {turn : Int} {tt : Tok} {mine last : Bool} (F : Fr h₀ L h M) (h1 : M (Str.ofString "turn") = some (.int turn tt)) (h2 : M (Str.ofString "mine") = some (.bool mine))
    (h3 : M (Str.ofString "last") = some (.bool last)) (h4 : M (Str.ofString "hands") = some (.ref aHands)) (h5 : M (Str.ofString "numbers") = some (.ref aNums)) : Fr h₀ L h (gameMap M aHands aNums turn tt mine last) := by
  have e : gameMap M aHands aNums turn tt mine last = M := by
    funext y
    unfold gameMap
    split
    · rename_i q; rw [q, h1]
    · split
      · rename_i q; rw [q, h2]
      · split
        · rename_i q; rw [q, h3]
        · split
          · rename_i q; rw [q, h4]
          · split
            · rename_i q; rw [q, h5]
            · rfl
  rw [e]; exact F
theorem fr_pick {h₀ h : Heap} {L : Addr} {M : Str → Option Value} {aHands aNums : Nat} {turn k cnt : Int} {tt tk tc : Tok} {mine last : Bool} (F : Fr h₀ L h M) (h1 : M (Str.ofString "turn") = some (.int turn tt)) (h2 : M (Str.ofString "mine") = some (.bool mine))
    (h3 : M (Str.ofString "last") = some (.bool last)) (h4 : M (Str.ofString "hands") = some (.ref aHands)) (h5 : M (Str.ofString "numbers") = some (.ref aNums)) (h6 : M (Str.ofString "k") = some (.int k tk)) (h7 : M (Str.ofString "count") = some (.int cnt tc)) :
    Fr h₀ L h (pickMap M aHands aNums turn tt mine last k cnt tk tc) := by
  have e : pickMap M aHands aNums turn tt mine last k cnt tk tc = M := by
    funext y
    unfold pickMap
    split
    · rename_i q; rw [q, h7]
    · split
      · rename_i q; rw [q, h6]
      · split
        · rename_i q; rw [q, h1]
        · split
          · rename_i q; rw [q, h2]
          · split
            · rename_i q; rw [q, h3]
            · split
              · rename_i q; rw [q, h4]
              · split
                · rename_i q; rw [q, h5]
                · rfl
  rw [e]; exact F
def PickPost (h₀ : Heap) (L aHands aNums aHeaps i0 i1 i2 ls tp : Nat) (n0 n1 : Int) (v0 v1 : Value) (ws : List Value) (oH oM : Obj) (most a b c : Int) (t0 t1 t2 : Tok) (e j0 j1 : Nat) (x2 turn : Int) (tt : Tok) (mine last : Bool) (s : Shared) (fl : Flow) (s' : Shared) : Prop :=
  fl = .next ∧ ∃ (h' : Heap) (tok : Nat) (m : Str → Option Value) (k cnt : Int) (tk tc : Tok) (oW oT : Obj) (cW cT : Option Value), s' = { s with heap := h', toks := tok } ∧
    Fr h₀ L h' (pickMap m aHands aNums turn tt mine last k cnt tk tc) ∧ News h₀ L h' (gameNews L aHands aNums aHeaps i0 i1 i2 ls tp n0 n1 v0 v1 ws a b c t0 t1 t2 e j0 j1 x2 oW oT oH oM) ∧
    oW.data = .cell cW ∧ oT.data = .cell cT ∧ Pick mine most a b c k cnt

theorem fr_rest {h₀ h h' : Heap} {L I : Addr} {m : Str → Option Value} (F : Fr h₀ L h m) (hs : Heap.ExtBut I h h') (hI : h₀.get? I = none) (hL : I ≠ L) : Fr h₀ L h' m :=
  ⟨F.ns.extBut hs (Ne.symm hL), fun b o e => hs b o (fun q => by rw [q, hI] at e; cases e) (F.keep b o e), F.above⟩

section
variable {prog : Program} {w : World} {A : Around} {s : Shared} {env : Env} {h₀ : Heap} {L : Addr} {m : Str → Option Value}

def ForTurnPost (h₀ : Heap) (L : Addr) (x : Str) (m : Str → Option Value) (nw : Nat → List (Addr × Obj)) (s : Shared) (I : Addr) (oI : Obj) (i : Nat) (f : Flow) (s₃ : Shared) : Prop :=
  f = .next ∧ ∃ h' tk m₂, s₃ = { s with heap := h', toks := tk } ∧ Fr h₀ L h' m₂ ∧ (∀ y, y ≠ x → m₂ y = m y) ∧ News h₀ L h' ((I, oI) :: nw (i + 1))

theorem dm_for {x : Str} {px pos : Pos} {iter : Expr} {body : List Stmt} {b : Nat} {Q : Flow → Shared → Prop} (nw : Nat → List (Addr × Obj))
    (hh : A.handled = none) (hx : env.kindOf x = some .local) (hL : env.locals = L)
    (hp : (env.scope.kind == .class || (env.scope.kind == .module && env.locals != env.globals)) = false)
    (hb : b ≤ 3) (hnw : ∀ i, ∀ p ∈ nw i, ∃ q ∈ nw 0, p.1 = q.1)
    (hiter : ∀ Q' : Value → Shared → Prop, (∀ h' tk r t u v, IsRange h' r 0 (b : Int) 1 t u v → Fr h₀ L h' m → News h₀ L h' (nw 0) → Q' (.ref r) { s with heap := h', toks := tk }) →
      wpAny (model prog w) A (eval iter env) Q' (fun _ _ => False) s)
    (turn : ∀ (i : Nat) (I : Addr) (oI : Obj) (tk tk' : Nat) (h : Heap), i < b → (∀ p ∈ nw 0, p.1 < I) →
      Fr h₀ L h (fun y => if y = x then some (.int i tk) else m y) → News h₀ L h ((I, oI) :: nw i) →
      wpAny (model prog w) A (execs body env) (ForTurnPost h₀ L x m nw s I oI i) (fun _ _ => False) { s with heap := h, toks := tk' })
    (done : ∀ (h' : Heap) (tk : Nat) (u : Option Value), Fr h₀ L h' (fun y => if y = x then u else m y) → News h₀ L h' (nw b) → Q .next { s with heap := h', toks := tk })
    (hs : ∀ x, foldedSetIterable iter env x = pure x := by intro _; rfl)
    (hE : PassesOwn (model prog w) A env (fun _ _ => False) := by passes_own) :
    wpAny (model prog w) A (exec (.For (.Name x px) iter body [] pos) env) Q (fun _ _ => False) s := by
  refine wpAny_For (hiter _ fun h₁ tk₁ r t u v hr F₁ N₁ => ?_) hs
  have sm : Builtin.Range.small 0 (b : Int) 1 = true := small_one (by omega) (by omega) (by omega) (by omega)
  have es : Builtin.Range.rangeSize 0 (b : Int) 1 = (b : Int) := by
    rw [rangeSize_one]; split <;> omega
  refine wpAny_pyIter_range hr sm ?_
  rw [es]
  have hIL : h₁.objs.size ≠ L := by obtain ⟨oL, _, _, hoL, _⟩ := F₁.ns; exact Ne.symm (Nat.ne_of_lt (Heap.lt_size hoL))
  have hI0 : h₀.get? h₁.objs.size = none := by
    cases hq : h₀.get? h₁.objs.size with
    | none => rfl
    | some o' => exact absurd (Heap.lt_size (F₁.keep _ _ hq)) (Nat.lt_irrefl _)
  have hlt0 : ∀ p ∈ nw 0, p.1 < h₁.objs.size := fun p hp => Heap.lt_size (N₁ p hp).1
  have hlt : ∀ i, ∀ p ∈ nw i, p.1 < h₁.objs.size := fun i p hp => by
    obtain ⟨q, hq, e⟩ := hnw i p hp; rw [e]; exact hlt0 q hq
  refine codeAny_forLoop (fun n s' => ∃ (h' : Heap) (tk : Nat) (m' : Str → Option Value) (i : Nat), s' = { s with heap := h', toks := tk } ∧ IsRangeIter h' h₁.objs.size (i : Int) ((b : Int) - (i : Int)) 1 ∧ Fr h₀ L h' m' ∧ (∀ y, y ≠ x → m' y = m y) ∧ News h₀ L h' (nw i) ∧ i ≤ b ∧ n = b + 1 - i)
    ?_ (b + 1) ⟨_, tk₁, m, 0, rfl, ?_, F₁.push _, fun _ _ => rfl, fun p hp => ⟨Heap.get?_push_of_some _ (N₁ p hp).1, (N₁ p hp).2⟩, Nat.zero_le _, rfl⟩
  · rintro n s' ⟨h', tk, m', i, rfl, hit, F', hm', N', hi, rfl⟩
    by_cases hib : i < b
    · refine wpAny_pyNext_range_item hit (by omega) fun h₂ hit₂ hs₂ => ?_
      have F₂ : Fr h₀ L h₂ m' := fr_rest F' hs₂.extBut hI0 hIL
      have N₂ : News h₀ L h₂ (nw i) := fun p hp => ⟨hs₂.extBut _ _ (Nat.ne_of_lt (hlt i p hp)) (N' p hp).1, (N' p hp).2⟩
      subst hL
      refine wpAny_assign_Name (wpAny_storeName_local hx F₂.ns (fun h₃ hn₃ hs₃ => ?_) hp)
      have F₃ := F₂.set hn₃ hs₃
      have hit₃ : h₃.get? h₁.objs.size = some _ := (hs₃.2 _ hIL).trans hit₂
      have N₃ : News h₀ env.locals h₃ ((h₁.objs.size, _) :: nw i) := fun p hp => by
        rcases List.mem_cons.mp hp with rfl | hp
        · exact ⟨hit₃, hIL, hI0⟩
        · exact (N₂.set hs₃) p hp
      refine wpAny_passesOwn hE ?_
      have em : (fun y => if y = x then some (Value.int (i : Int) tk) else m' y) = (fun y => if y = x then some (Value.int (i : Int) tk) else m y) := by
        funext y
        by_cases hy : y = x
        · simp [hy]
        · simp [hy, hm' y hy]
      rw [em] at F₃
      refine wpAny_mono (turn i h₁.objs.size _ tk _ h₃ hib hlt0 F₃ N₃) (fun f s₃ h₃ => ?_) fun _ _ e => e
      obtain ⟨rfl, h₄, tk₄, m₂, rfl, F₄, hm₂, N₄⟩ := h₃
      refine ⟨b + 1 - (i + 1), by omega, h₄, tk₄, m₂, i + 1, rfl, ?_, F₄, hm₂, fun p hp => N₄ p (.tail _ hp), hib, rfl⟩
      have e1 : ((i + 1 : Nat) : Int) = (i : Int) + 1 := by omega
      have e2 : (b : Int) - ((i : Int) + 1) = (b : Int) - (i : Int) - 1 := by omega
      rw [e1, e2]
      exact (N₄ _ (.head _)).1
    · have hib' : i = b := by omega
      subst hib'
      refine wpAny_pyNext_range_end hh hit (by omega) fun h₂ hs₂ => wpAny_execs_nil ?_
      have em : m' = (fun y => if y = x then m' x else m y) := by
        funext y
        by_cases hy : y = x
        · simp [hy]
        · simp [hy, hm' y hy]
      have F₂ := fr_rest F' hs₂ hI0 hIL
      rw [em] at F₂
      exact done h₂ tk (m' x) F₂ fun p hp => ⟨hs₂ _ _ (Nat.ne_of_lt (hlt _ p hp)) (N' p hp).1, (N' p hp).2⟩
  · show (h₁.push _).get? _ = some _
    rw [Heap.get?_push_size _ rfl]
    have e3 : (b : Int) - ((0 : Nat) : Int) = (b : Int) := by omega
    rw [e3]
    rfl
end

theorem dm_next_li_meets (it l : Addr) (i k : Nat) (its : Array Value) (x : Value) (hx : its[i]? = some x) :
    Meets (Builtin.«list_iterator.__next__» ⟨[.ref it], []⟩) (fun _ R s => s.heap.get? it = some (liObj l i) ∧ s.heap.get? l = some (listOf its k) ∧
      (∀ h', h'.get? it = some (liObj l (i + 1)) → Heap.SameBut it s.heap h' → R (.ok (.ret x)) { s with heap := h' })) :=
  .of_wp fun prog w A R s h => by
    obtain ⟨hp, g, d, tk, os⟩ := s; obtain ⟨hl, h2, h⟩ := h
    have e : its[Int.toNat (i : Int)]? = some x := by simpa using hx
    wp_walk
    rw [e]
    wp_walk
    exact ⟨_, rfl, h _ (Heap.get?_update_self _ hl rfl) (Heap.SameBut.update ..)⟩
theorem dm_next_ti_meets (it l : Addr) (i : Nat) (vs : List Value) (x : Value) (hx : vs.toArray[i]? = some x) :
    Meets (Builtin.«tuple_iterator.__next__» ⟨[.ref it], []⟩) (fun _ R s => s.heap.get? it = some (tiObj l i) ∧ s.heap.get? l = some (tupObj vs) ∧
      (∀ h', h'.get? it = some (tiObj l (i + 1)) → Heap.SameBut it s.heap h' → R (.ok (.ret x)) { s with heap := h' })) :=
  .of_wp fun prog w A R s h => by
    obtain ⟨hp, g, d, tk, os⟩ := s; obtain ⟨hl, h2, h⟩ := h
    have e : vs.toArray[Int.toNat (i : Int)]? = some x := by simpa using hx
    wp_walk
    rw [e]
    wp_walk
    exact ⟨_, rfl, h _ (Heap.get?_update_self _ hl rfl) (Heap.SameBut.update ..)⟩

section
variable {prog : Program} {w : World} {A : Around} {E : Value → Shared → Prop} {s : Shared} {h₀ : Heap} {L it l : Addr} {m : Str → Option Value} {news : List (Addr × Obj)} {g : Obj → List (Addr × Obj)} {i k : Nat} {z y x : Int} {v dflt : Value} {Q : Value → Shared → Prop}

theorem dm_next_open {T : String} {id : String} (hT : s.TypeIs (.ref it) T) (hl : typeLookup (.type T) (Str.ofString "__next__") = pure (some (.builtin id)))
    (h : wpAny (model prog w) A.in1 (pyNext (.ref it)) (fun r s' => Q (r.getD dflt) s') E s) :
    wpAny (model prog w) A (call (.builtin "next") [.ref it, dflt]) Q E s := by
  refine call_function_entry (by decide +kernel) (by decide +kernel) kdk_entry_next (kdk_args_next2 _ _) ?_
  unfold Builtin.«next»
  refine wpAny_bind (m := someArgs "next" 1 2 _) (wpAny_of_eq (a := [Value.ref it, dflt]) (by first | rfl | kernel_rfl!) ?_)
  dsimp only
  refine wpAny_bind (wpAny_specialOf (name := Str.ofString "__next__") hT hl ?_)
  refine wpAny_ite_split (fun hab => absurd hab (by simp)) (fun _ => ?_)
  exact wpAny_bind (wpAny_mono h (fun r s' q => wpAny_pure ⟨_, rfl, q⟩) fun _ _ e => e)

theorem dm_next_li (F : Fr h₀ L s.heap m) (N : News h₀ L s.heap news) (U : UpdF it (liObj l i) news g) (hl : (l, listOf (List.replicate z.toNat v).toArray k) ∈ news) (hi : (i : Int) < z)
    (h : ∀ h', Fr h₀ L h' m → News h₀ L h' (g (liObj l (i + 1))) → Q v { s with heap := h' }) :
    wpAny (model prog w) A (call (.builtin "next") [.ref it, dflt]) Q E s := by
  obtain ⟨pre, post, hlist, hg, a, b⟩ := U.split
  have hmem : (it, liObj l i) ∈ news := by rw [hlist]; exact List.mem_append_right _ (.head _)
  have hm := N _ hmem
  have hT : s.TypeIs (.ref it) "list_iterator" := ⟨_, hm.1, rfl⟩
  refine dm_next_open hT slot_listiter_next.lookup ?_
  unfold pyNext
  refine wpAny_bind (wpAny_attempt (wpAny_callSpecial?_slot (name := Str.ofString "__next__") hT slot_listiter_next
    (call_meets slot_listiter_next hT entry_listiter_next (args_listiter_next _) (dm_next_li_meets it l i k (List.replicate z.toNat v).toArray v (by rw [List.getElem?_toArray, List.getElem?_replicate, if_pos (by omega)])) ⟨hm.1, (N _ hl).1, fun h' ho' hs => ?_⟩)))
  exact wpAny_pure (h h' (F.change hs hm.2.1 hm.2.2) (hg _ ▸ (show News h₀ L s.heap (pre ++ (it, liObj l i) :: post) from hlist ▸ N).setIn a b hs ho'))
theorem dm_next_ti (F : Fr h₀ L s.heap m) (N : News h₀ L s.heap news) (U : UpdF it (tiObj l i) news g) (hl : (l, tupObj (List.replicate z.toNat v)) ∈ news) (hi : (i : Int) < z)
    (h : ∀ h', Fr h₀ L h' m → News h₀ L h' (g (tiObj l (i + 1))) → Q v { s with heap := h' }) :
    wpAny (model prog w) A (call (.builtin "next") [.ref it, dflt]) Q E s := by
  obtain ⟨pre, post, hlist, hg, a, b⟩ := U.split
  have hmem : (it, tiObj l i) ∈ news := by rw [hlist]; exact List.mem_append_right _ (.head _)
  have hm := N _ hmem
  have hT : s.TypeIs (.ref it) "tuple_iterator" := ⟨_, hm.1, rfl⟩
  refine dm_next_open hT PySem.F.slot_tuple_iterator_next.lookup ?_
  unfold pyNext
  refine wpAny_bind (wpAny_attempt (wpAny_callSpecial?_slot (name := Str.ofString "__next__") hT PySem.F.slot_tuple_iterator_next
    (call_meets PySem.F.slot_tuple_iterator_next hT PySem.F.entry_tuple_iterator_next (PySem.F.args_tuple_iterator_next_1 _) (dm_next_ti_meets it l i (List.replicate z.toNat v) v (by rw [List.getElem?_toArray, List.getElem?_replicate, if_pos (by omega)])) ⟨hm.1, (N _ hl).1, fun h' ho' hs => ?_⟩)))
  exact wpAny_pure (h h' (F.change hs hm.2.1 hm.2.2) (hg _ ▸ (show News h₀ L s.heap (pre ++ (it, tiObj l i) :: post) from hlist ▸ N).setIn a b hs ho'))
theorem dm_next_ri (F : Fr h₀ L s.heap m) (N : News h₀ L s.heap news) (U : UpdF it (riObj y x) news g) (hi : 0 < x)
    (h : ∀ h', Fr h₀ L h' m → News h₀ L h' (g (riObj (y + 1) (x - 1))) → Q (.int y s.toks) { s with heap := h', toks := s.toks + 1 }) :
    wpAny (model prog w) A (call (.builtin "next") [.ref it, dflt]) Q E s := by
  obtain ⟨pre, post, hlist, hg, a, b⟩ := U.split
  have hmem : (it, riObj y x) ∈ news := by rw [hlist]; exact List.mem_append_right _ (.head _)
  have hm := N _ hmem
  have hT : s.TypeIs (.ref it) "range_iterator" := ⟨_, hm.1, rfl⟩
  refine dm_next_open hT PySem.F.slot_range_iterator_next.lookup ?_
  refine wpAny_pyNext_range_item (x := y) (left := x) (step := 1) hm.1 hi fun h' ho' hs => ?_
  exact h h' (F.change hs hm.2.1 hm.2.2) (hg _ ▸ (show News h₀ L s.heap (pre ++ (it, riObj y x) :: post) from hlist ▸ N).setIn a b hs ho')
end

abbrev nest (elt iter0 iter1 : Expr) (xj xt : Str) (pj pt : Pos) (scope : Scope) (pos : Pos) : Expr := .ListComp elt [⟨.Name xj pj, iter0, [], 0⟩, ⟨.Name xt pt, iter1, [], 0⟩] scope pos

theorem nest_outer (elt iter0 iter1 : Expr) (xj xt : Str) (pj pt : Pos) (scope : Scope) (pos : Pos) (it acc : Value) (env : Env) :
    compTurn (nest elt iter0 iter1 xj xt pj pt scope pos) 0 it acc env = (standAt iter0.pos >>= fun _ => pyNext it >>= fun r => match r with
      | none => pure (.done .next)
      | some v => letOwnedTupleGo (.Name xj pj) it v >>= fun _ => assign (.Name xj pj) env v >>= fun _ =>
        eval iter1 env >>= fun x => standAt iter1.pos >>= fun _ => foldedSetIterable iter1 env x >>= fun x => holding [x] (pyIter x) >>= fun it' =>
          runOwn (.compStart (nest elt iter0 iter1 xj xt pj pt scope pos) 1 it' acc env) env >>= fun _ =>
          again (.compLoop (nest elt iter0 iter1 xj xt pj pt scope pos) 0 it acc env)) := by rfl
theorem nest_inner (elt iter0 iter1 : Expr) (xj xt : Str) (pj pt : Pos) (scope : Scope) (pos : Pos) (it acc : Value) (env : Env) :
    compTurn (nest elt iter0 iter1 xj xt pj pt scope pos) 1 it acc env = (standAt iter1.pos >>= fun _ => pyNext it >>= fun r => match r with
      | none => pure (.done .next)
      | some v => letOwnedTupleGo (.Name xt pt) it v >>= fun _ => assign (.Name xt pt) env v >>= fun _ =>
        (eval elt env >>= fun x => call (.builtin "list.append") [acc, x] >>= fun _ => pure ()) >>= fun _ =>
          again (.compLoop (nest elt iter0 iter1 xj xt pj pt scope pos) 1 it acc env)) := by rfl

section
variable {prog : Program} {w : World} {A : Around} {R : Result → Shared → Prop} {s : Shared} {elt iter0 iter1 : Expr} {xj xt : Str} {pj pt : Pos} {scope : Scope} {pos : Pos} {it acc : Value} {env : Env}

theorem nest_start {d : Nat} (hd : d = 0 ∨ d = 1)
    (h0 : codeAny (model prog w) A (.compLoop (nest elt iter0 iter1 xj xt pj pt scope pos) d it acc env) R s)
    (h : wpAny (model prog w) A (pyIter it) (fun it' s' => codeAny (model prog w) A (.compLoop (nest elt iter0 iter1 xj xt pj pt scope pos) d it' acc env) R s')
      (fun _ _ => False) s) :
    codeAny (model prog w) A (.compStart (nest elt iter0 iter1 xj xt pj pt scope pos) d it acc env) R s := by
  have h' : wpAny (model prog w) A (pyIter it) (fun it' s' => codeAny (model prog w) A (.compLoop (nest elt iter0 iter1 xj xt pj pt scope pos) d it' acc env) R s')
      (notedBy (model prog w) A env fun x s' => R (.error x) s') s := wpAny_mono h (fun _ _ q => q) fun _ _ q => q.elim
  rcases hd with rfl | rfl
  all_goals
    refine codeAny_of_tree ?_
    show wpAny _ _ ((compStart (nest elt iter0 iter1 xj xt pj pt scope pos) _ it acc env).onRaise (fun x => do noteFrame x env; standAt theWindowsPlace)) _ _ s
    refine wpAny_notedAt ?_
    unfold compStart
    show wpAny _ _ (ask >>= _) _ _ s
    refine wpAny_bind (wpAny_askSetting (wpAny_ite ?_))
    split
    · first
        | exact wpAny_bind (wpAny_pure (wpAny_pure (And.intro rfl h0)))
        | exact wpAny_pure (And.intro rfl h0)
    · first
        | exact wpAny_bind (wpAny_rule (wpAny_bind (wpAny_standAt (wpAny_bind (wpAny_mono h' (fun it' s' h' => wpAny_pure (And.intro rfl h')) fun _ _ x => x)))))
        | (refine wpAny_bind (wpAny_rule ?_); show wpAny _ _ (standAt _ >>= _) _ _ s; exact wpAny_bind (wpAny_standAt (wpAny_bind (wpAny_mono h' (fun it' s' h' => wpAny_pure (And.intro rfl h')) fun _ _ x => x))))

theorem nest_loop_inner (I : Nat → Shared → Prop)
    (turn : ∀ n s, I n s → wpAny (model prog w) A (pyNext it) (fun r s₁ => match r with
      | none => R (.ok .next) s₁
      | some v => wpAny (model prog w) A (assign (.Name xt pt) env v) (fun _ s₂ => wpAny (model prog w) A (eval elt env) (fun x s₃ =>
          wpAny (model prog w) A (call (.builtin "list.append") [acc, x]) (fun _ s₄ => ∃ m, m < n ∧ I m s₄) (fun _ _ => False) s₃) (fun _ _ => False) s₂) (fun _ _ => False) s₁) (fun _ _ => False) s)
    (n : Nat) (h : I n s) :
    codeAny (model prog w) A (.compLoop (nest elt iter0 iter1 xj xt pj pt scope pos) 1 it acc env) R s := by
  refine codeAny_loop rfl I (fun n s hI => ?_) n h
  show wpAny _ _ ((compTurn (nest elt iter0 iter1 xj xt pj pt scope pos) 1 it acc env).onRaise (fun x => do noteFrame x env; theTreesLotGoes x)) _ _ s
  refine wpAny_noted ?_
  rw [nest_inner]
  refine wpAny_bind (wpAny_standAt (wpAny_bind (wpAny_mono (turn n s hI) (fun r s₁ h₁ => ?_) fun _ _ h' => h'.elim)))
  cases r with
  | none => exact wpAny_pure h₁
  | some v =>
    refine wpAny_bind (wpAny_of_eq (a := ()) rfl ?_)
    exact wpAny_bind (wpAny_mono h₁ (fun _ s₂ h₂ => wpAny_bind (wpAny_bind (wpAny_mono h₂ (fun x s₃ h₃ => wpAny_bind (wpAny_mono h₃
      (fun _ s₄ h₄ => wpAny_pure (wpAny_pure ⟨rfl, h₄⟩)) fun _ _ h' => h'.elim)) fun _ _ h' => h'.elim))) fun _ _ h' => h'.elim)

theorem nest_loop_outer (I : Nat → Shared → Prop) (hs1 : ∀ x, foldedSetIterable iter1 env x = pure x)
    (turn : ∀ n s, I n s → wpAny (model prog w) A (pyNext it) (fun r s₁ => match r with
      | none => R (.ok .next) s₁
      | some v => wpAny (model prog w) A (assign (.Name xj pj) env v) (fun _ s₂ => wpAny (model prog w) A (eval iter1 env) (fun x s₃ =>
          wpAny (model prog w) A (pyIter x) (fun it' s₄ => codeAny (model prog w) A (.compStart (nest elt iter0 iter1 xj xt pj pt scope pos) 1 it' acc env)
            (fun r s₅ => match r with | .ok _ => ∃ m, m < n ∧ I m s₅ | .error _ => False) s₄) (fun _ _ => False) s₃) (fun _ _ => False) s₂) (fun _ _ => False) s₁) (fun _ _ => False) s)
    (n : Nat) (h : I n s) :
    codeAny (model prog w) A (.compLoop (nest elt iter0 iter1 xj xt pj pt scope pos) 0 it acc env) R s := by
  refine codeAny_loop rfl I (fun n s hI => ?_) n h
  show wpAny _ _ ((compTurn (nest elt iter0 iter1 xj xt pj pt scope pos) 0 it acc env).onRaise (fun x => do noteFrame x env; theTreesLotGoes x)) _ _ s
  refine wpAny_noted ?_
  rw [nest_outer]
  refine wpAny_bind (wpAny_standAt (wpAny_bind (wpAny_mono (turn n s hI) (fun r s₁ h₁ => ?_) fun _ _ h' => h'.elim)))
  cases r with
  | none => exact wpAny_pure h₁
  | some v =>
    refine wpAny_bind (wpAny_of_eq (a := ()) rfl ?_)
    refine wpAny_bind (wpAny_mono h₁ (fun _ s₂ h₂ => ?_) fun _ _ h' => h'.elim)
    refine wpAny_bind (wpAny_mono h₂ (fun x s₃ h₃ => ?_) fun _ _ h' => h'.elim)
    refine wpAny_bind (wpAny_standAt (wpAny_bind (wpAny_of_eq (hs1 x) ?_)))
    refine wpAny_bind (wpAny_holding (wpAny_mono h₃ (fun it' s₄ h₄ => ?_) fun _ _ h' => h'.elim))
    refine wpAny_bind (wpAny_runOwn (codeAny_mono h₄ fun r s₅ h₅ => ?_))
    cases r with
    | ok f => exact wpAny_pure ⟨rfl, h₅⟩
    | error e => exact h₅.elim
end

def Mayed (valid : Int → Int → Prop) (tups : List (Addr × Obj)) (vs : List Value) : Prop :=
  ∀ v ∈ vs, ∃ (T : Addr) (j t : Int) (tj tt : Tok), v = .ref T ∧ (T, tupObj [.int j tj, .int t tt]) ∈ tups ∧ valid j t

theorem news_sub {h₀ h : Heap} {L : Addr} {l l' : List (Addr × Obj)} (N : News h₀ L h l) (hs : ∀ p ∈ l', p ∈ l) : News h₀ L h l' := fun p hp => N p (hs p hp)
theorem news_but2 {h₀ h h' : Heap} {L x : Addr} {l : List (Addr × Obj)} (N : News h₀ L h l) (hs : Heap.ExtBut x h h') (hne : ∀ p ∈ l, p.1 ≠ x) : News h₀ L h' l :=
  fun p hp => ⟨hs _ _ (hne p hp) (N p hp).1, (N p hp).2⟩
theorem news_cons {h₀ h : Heap} {L : Addr} {p : Addr × Obj} {l : List (Addr × Obj)} (h1 : h.get? p.1 = some p.2) (h2 : p.1 ≠ L) (h3 : h₀.get? p.1 = none) (N : News h₀ L h l) : News h₀ L h (p :: l) := fun q hq => by
  rcases List.mem_cons.mp hq with rfl | hq
  · exact ⟨h1, h2, h3⟩
  · exact N q hq

section
variable {prog : Program} {w : World} {A : Around} {s : Shared} {env : Env} {h₀ : Heap} {L : Addr} {m : Str → Option Value} {news : List (Addr × Obj)}
  {elt iter0 iter1 : Expr} {xj xt : Str} {pj pt : Pos} {scope : Scope} {cl : List (Str × Addr)} {pos : Pos}

/-- what evaluating the element gives -/
def EltOk (prog : Program) (w : World) (A : Around) (s : Shared) (h₀ : Heap) (L : Addr) (m : Str → Option Value) (news : List (Addr × Obj)) (env : Env) (elt : Expr) (scope : Scope) (cl : List (Str × Addr)) (xj xt : Str) : Prop :=
  ∀ (C : Nat) (oC : Obj) (m' : Str → Option Value) (j t : Int) (tj tt : Tok) (h : Heap) (tk : Nat) (tl : List (Addr × Obj)), LCg.NsObj oC m' → m' xj = some (.int j tj) → m' xt = some (.int t tt) → Fr h₀ L h m → News h₀ L h ((C, oC) :: (news ++ tl)) →
    ∀ Q' : Value → Shared → Prop, (∀ T h' tk', Fr h₀ L h' m → News h₀ L h' ((T, tupObj [.int j tj, .int t tt]) :: (C, oC) :: (news ++ tl)) → (∀ p ∈ (C, oC) :: (news ++ tl), p.1 < T) → Q' (.ref T) { s with heap := h', toks := tk' }) →
      wpAny (model prog w) A (eval elt (compEnvC scope cl C env)) Q' (fun _ _ => False) { s with heap := h, toks := tk }
/-- what evaluating the inner iterable gives -/
def IterOk (prog : Program) (w : World) (A : Around) (s : Shared) (h₀ : Heap) (L : Addr) (m : Str → Option Value) (news : List (Addr × Obj)) (env : Env) (iter1 : Expr) (scope : Scope) (cl : List (Str × Addr)) (xj : Str) (rr : Nat → Nat) : Prop :=
  ∀ (C : Nat) (oC : Obj) (m' : Str → Option Value) (j : Nat) (tj : Tok) (h : Heap) (tk : Nat) (tl : List (Addr × Obj)), j < 3 → LCg.NsObj oC m' → m' xj = some (.int (j : Int) tj) → Fr h₀ L h m → News h₀ L h ((C, oC) :: (news ++ tl)) →
    ∀ Q' : Value → Shared → Prop, (∀ h' tk' r t u v, IsRange h' r 1 ((rr j : Int) + 1) 1 t u v → Fr h₀ L h' m → News h₀ L h' ((C, oC) :: (news ++ tl)) → Q' (.ref r) { s with heap := h', toks := tk' }) →
      wpAny (model prog w) A (eval iter1 (compEnvC scope cl C env)) Q' (fun _ _ => False) { s with heap := h, toks := tk }

/-- the state between two turns of either loop -/
def MaySt (s : Shared) (h₀ : Heap) (L : Addr) (m : Str → Option Value) (news : List (Addr × Obj)) (valid : Int → Int → Prop) (xj : Str) (D C I0 : Nat) (own : List (Addr × Obj)) (jv : Option Value) (len : Nat) (s' : Shared) : Prop :=
  ∃ (h' : Heap) (tk : Nat) (oC : Obj) (m' : Str → Option Value) (vs : List Value) (tups : List (Addr × Obj)), s' = { s with heap := h', toks := tk } ∧ Fr h₀ L h' m ∧
    News h₀ L h' ((C, oC) :: (news ++ ((D, LCg.lst vs) :: (own ++ tups)))) ∧ LCg.NsObj oC m' ∧ m' xj = jv ∧ Mayed valid tups vs ∧ vs.length = len ∧ (∀ p ∈ tups, C < p.1 ∧ ∀ q ∈ own, p.1 ≠ q.1)

theorem may_inner {valid : Int → Int → Prop} {D C I0 I1 : Nat} {o0 : Obj} {j : Nat} {tj : Tok} {r len : Nat} {R : Result → Shared → Prop} {s₁ : Shared}
    (hh : A.handled = none) (hkind : scope.kind = .function) (hxt : scope.names.lookup xt = some .local) (hjt : xj ≠ xt) (hE : EltOk prog w A s h₀ L m news env elt scope cl xj xt)
    (hr : r ≤ 3) (hlen : len ≤ 6) (hv : ∀ t : Nat, 1 ≤ t → t ≤ r → valid (j : Int) (t : Int))
    (hnI : ∀ p ∈ news, p.1 < I0) (hID : I0 < D) (hDC : D < C) (hCI : C < I1)
    (hst : MaySt s h₀ L m news valid xj D C I0 [(I1, riObj 1 r), (I0, o0)] (some (.int (j : Int) tj)) len s₁)
    (hR : ∀ s', MaySt s h₀ L m news valid xj D C I0 [(I0, o0)] (some (.int (j : Int) tj)) (len + r) s' → R (.ok .next) s') :
    codeAny (model prog w) A (.compLoop (nest elt iter0 iter1 xj xt pj pt scope pos) 1 (.ref I1) (.ref D) (compEnvC scope cl C env)) R s₁ := by
  have lo : ∀ p ∈ news, p.1 ≠ I1 ∧ p.1 ≠ D ∧ p.1 ≠ C ∧ p.1 ≠ I0 := fun p hp => by
    have h1 : @LT.lt Nat _ p.1 I0 := hnI p hp
    exact ⟨Nat.ne_of_lt (by omega), Nat.ne_of_lt (by omega), Nat.ne_of_lt (by omega), Nat.ne_of_lt h1⟩
  refine nest_loop_inner (fun n s' => ∃ i, i ≤ r ∧ n = r + 1 - i ∧ MaySt s h₀ L m news valid xj D C I0 [(I1, riObj (1 + (i : Int)) ((r : Int) - (i : Int))), (I0, o0)] (some (.int (j : Int) tj)) (len + i) s') ?_ (r + 1) ⟨0, Nat.zero_le _, rfl, ?_⟩
  · rintro n s' ⟨i, hi, rfl, h', tk, oC, m', vs, tups, rfl, F, N, hC, hj, hM, hl, hT⟩
    have mC : (C, oC) ∈ (C, oC) :: (news ++ ((D, LCg.lst vs) :: ([(I1, riObj (1 + (i : Int)) ((r : Int) - (i : Int))), (I0, o0)] ++ tups))) := .head _
    have mI1 : (I1, riObj (1 + (i : Int)) ((r : Int) - (i : Int))) ∈ (C, oC) :: (news ++ ((D, LCg.lst vs) :: ([(I1, riObj (1 + (i : Int)) ((r : Int) - (i : Int))), (I0, o0)] ++ tups))) := by simp
    have hit : IsRangeIter h' I1 (1 + (i : Int)) ((r : Int) - (i : Int)) 1 := (N _ mI1).1
    have hI1L := (N _ mI1).2.1
    have hI10 := (N _ mI1).2.2
    by_cases hir : i < r
    · refine wpAny_pyNext_range_item hit (by omega) fun h₁ hit₁ hs₁ => ?_
      have F₁ : Fr h₀ L h₁ m := fr_rest F hs₁.extBut hI10 hI1L
      have N₁ : News h₀ L h₁ ((C, oC) :: (news ++ ((D, LCg.lst vs) :: ((I0, o0) :: tups)))) := by
        refine news_but2 (news_sub N fun p hp => ?_) hs₁.extBut fun p hp => ?_
        · simp only [List.mem_cons, List.mem_append, List.cons_append, List.nil_append] at hp ⊢
          rcases hp with h | h | h | h | h <;> simp [h]
        · simp only [List.mem_cons, List.mem_append] at hp
          rcases hp with rfl | h | rfl | rfl | h
          · exact Nat.ne_of_lt hCI
          · exact (lo p h).1
          · exact Nat.ne_of_lt (Nat.lt_trans hDC hCI)
          · exact Nat.ne_of_lt (Nat.lt_trans hID (Nat.lt_trans hDC hCI))
          · exact (hT p h).2 _ (.head _)
      have hnC : h₁.Ns C m' := hC.ns (N₁ _ (.head _)).1
      refine wpAny_assign_Name (wpAny_storeName_local (lookup_relabel_local hxt) hnC (fun h₂ hn₂ hs₂ => ?_) (by simp [compEnvC, relabel, hkind]))
      have hCL := (N _ mC).2.1
      have hC0 := (N _ mC).2.2
      have F₂ : Fr h₀ L h₂ m := fr_rest F₁ hs₂.extBut hC0 hCL
      obtain ⟨oC₂, hoC₂, hC₂⟩ := LCg.ns_obj hn₂
      have hI1₂ : h₂.get? I1 = some (riObj (1 + (i : Int) + 1) ((r : Int) - (i : Int) - 1)) := (hs₂.2 _ (Nat.ne_of_gt hCI)).trans hit₁
      have N₂ : News h₀ L h₂ ((C, oC₂) :: (news ++ ((D, LCg.lst vs) :: (I1, riObj (1 + (i : Int) + 1) ((r : Int) - (i : Int) - 1)) :: (I0, o0) :: tups))) := by
        refine news_cons hoC₂ hCL hC0 ?_
        have N₁' : News h₀ L h₂ (news ++ ((D, LCg.lst vs) :: (I0, o0) :: tups)) := by
          refine news_but2 (news_sub N₁ fun p hp => .tail _ hp) hs₂.extBut fun p hp => ?_
          simp only [List.mem_cons, List.mem_append] at hp
          rcases hp with h | rfl | rfl | h
          · exact (lo p h).2.2.1
          · exact Nat.ne_of_lt hDC
          · exact Nat.ne_of_lt (Nat.lt_trans hID hDC)
          · exact Nat.ne_of_gt (hT p h).1
        intro p hp
        by_cases q : p = (I1, riObj (1 + (i : Int) + 1) ((r : Int) - (i : Int) - 1))
        · rw [q]; exact ⟨hI1₂, hI1L, hI10⟩
        · refine N₁' p ?_
          simp only [List.mem_cons, List.mem_append] at hp ⊢
          rcases hp with h | h | h | h | h
          · exact .inl h
          · exact .inr (.inl h)
          · exact absurd h q
          · exact .inr (.inr (.inl h))
          · exact .inr (.inr (.inr h))
      refine hE C oC₂ _ (j : Int) (1 + (i : Int)) tj tk h₂ _ ((D, LCg.lst vs) :: (I1, riObj (1 + (i : Int) + 1) ((r : Int) - (i : Int) - 1)) :: (I0, o0) :: tups) hC₂ (by simp only [if_neg hjt]; exact hj) (by simp) F₂ N₂ _ fun T h₃ tk₃ F₃ N₃ hlt => ?_
      have hTC : @LT.lt Nat _ C T := hlt (C, oC₂) (.head _)
      have hTI : @LT.lt Nat _ I1 T := hlt (I1, riObj (1 + (i : Int) + 1) ((r : Int) - (i : Int) - 1)) (by simp)
      refine append_K (D := D) (its := vs.toArray) (n := vs.length) (news := (D, LCg.lst vs) :: ((T, tupObj [.int (j : Int) tj, .int (1 + (i : Int)) tk]) :: (C, oC₂) :: (news ++ ((I1, riObj (1 + (i : Int) + 1) ((r : Int) - (i : Int) - 1)) :: (I0, o0) :: tups)))) F₃ (news_sub N₃ fun p hp => ?_) (Upd.head fun p hp => ?_) (fun h₄ F₄ N₄ => ?_) ?_
      · simp only [List.mem_cons, List.mem_append] at hp ⊢
        rcases hp with h | h | h | h | h | h | h <;> simp [h]
      · simp only [List.mem_cons, List.mem_append] at hp
        rcases hp with rfl | rfl | h | rfl | rfl | h
        · exact Nat.ne_of_gt (Nat.lt_trans hDC hTC)
        · exact Nat.ne_of_gt hDC
        · exact (lo p h).2.1
        · exact Nat.ne_of_gt (Nat.lt_trans hDC hCI)
        · exact Nat.ne_of_lt hID
        · exact Nat.ne_of_gt (Nat.lt_trans hDC (hT p h).1)
      · refine ⟨r + 1 - (i + 1), by omega, i + 1, hir, rfl, h₄, _, oC₂, _, vs ++ [.ref T], (T, tupObj [.int (j : Int) tj, .int (1 + (i : Int)) tk]) :: tups, rfl, F₄, ?_, hC₂, by simp only [if_neg hjt]; exact hj, ?_, by simp [hl]; omega, ?_⟩
        · have eL : listOf (vs.toArray.push (.ref T)) (vs.length + 1) = LCg.lst (vs ++ [.ref T]) := LCg.lst_snoc vs _
          rw [eL] at N₄
          have e1 : (1 : Int) + ((i + 1 : Nat) : Int) = 1 + (i : Int) + 1 := by omega
          have e2 : (r : Int) - ((i + 1 : Nat) : Int) = (r : Int) - (i : Int) - 1 := by omega
          rw [e1, e2]
          refine news_sub N₄ fun p hp => ?_
          simp only [List.mem_cons, List.mem_append, List.cons_append, List.nil_append] at hp ⊢
          rcases hp with h | h | h | h | h | h | h <;> simp [h]
        · intro v hv'
          rcases List.mem_append.mp hv' with h | h
          · obtain ⟨T', j', t', a1, a2, a3, a4, a5⟩ := hM v h
            exact ⟨T', j', t', a1, a2, a3, .tail _ a4, a5⟩
          · rw [List.mem_singleton.mp h]
            have := hv (1 + i) (by omega) (by omega)
            refine ⟨T, j, 1 + (i : Int), tj, tk, rfl, .head _, ?_⟩
            have e3 : ((1 + i : Nat) : Int) = 1 + (i : Int) := by omega
            rw [e3] at this
            exact this
        · intro p hp
          rcases List.mem_cons.mp hp with rfl | hp
          · refine ⟨hTC, fun q hq => ?_⟩
            simp only [List.mem_cons, List.not_mem_nil, or_false] at hq
            rcases hq with rfl | rfl
            · exact Nat.ne_of_gt hTI
            · exact Nat.ne_of_gt (Nat.lt_trans (Nat.lt_trans hID hDC) hTC)
          · refine ⟨(hT p hp).1, fun q hq => ?_⟩
            simp only [List.mem_cons, List.not_mem_nil, or_false] at hq
            rcases hq with rfl | rfl
            · exact (hT p hp).2 (I1, riObj (1 + (i : Int)) ((r : Int) - (i : Int))) (.head _)
            · exact (hT p hp).2 _ (.tail _ (.head _))
      · show vs.toArray.size ≤ sizeLine
        rw [List.size_toArray, sizeLine_eq]
        omega
    · have hir' : i = r := by omega
      subst hir'
      refine wpAny_pyNext_range_end hh hit (by omega) fun h₁ hs₁ => ?_
      refine hR _ ⟨h₁, tk, oC, m', vs, tups, rfl, fr_rest F hs₁ hI10 hI1L, ?_, hC, hj, hM, hl, fun p hp => ⟨(hT p hp).1, fun q hq => (hT p hp).2 q (.tail _ hq)⟩⟩
      refine news_but2 (news_sub N fun p hp => ?_) hs₁ fun p hp => ?_
      · simp only [List.mem_cons, List.mem_append, List.cons_append, List.nil_append] at hp ⊢
        rcases hp with h | h | h | h | h <;> simp [h]
      · simp only [List.mem_cons, List.mem_append, List.cons_append, List.nil_append] at hp
        rcases hp with rfl | h | rfl | rfl | h
        · exact Nat.ne_of_lt hCI
        · exact (lo p h).1
        · exact Nat.ne_of_lt (Nat.lt_trans hDC hCI)
        · exact Nat.ne_of_lt (Nat.lt_trans hID (Nat.lt_trans hDC hCI))
        · exact (hT p h).2 _ (.head _)
  · have e1 : (1 : Int) + ((0 : Nat) : Int) = 1 := by omega
    have e2 : (r : Int) - ((0 : Nat) : Int) = (r : Int) := by omega
    rw [e1, e2]
    exact hst
end

def tot (rr : Nat → Nat) : Nat → Nat
  | 0 => 0
  | i + 1 => tot rr i + rr i

section
variable {prog : Program} {w : World} {A : Around} {s : Shared} {env : Env} {h₀ : Heap} {L : Addr} {m : Str → Option Value} {news : List (Addr × Obj)}
  {elt iter0 iter1 : Expr} {xj xt : Str} {pj pt : Pos} {scope : Scope} {cl : List (Str × Addr)} {pos : Pos}

theorem may_outer {valid : Int → Int → Prop} {D C I0 : Nat} {rr : Nat → Nat} {jv : Option Value} {R : Result → Shared → Prop} {s₁ : Shared}
    (hh : A.handled = none) (hkind : scope.kind = .function) (hxj : scope.names.lookup xj = some .local) (hxt : scope.names.lookup xt = some .local) (hjt : xj ≠ xt)
    (hE : EltOk prog w A s h₀ L m news env elt scope cl xj xt) (hI : IterOk prog w A s h₀ L m news env iter1 scope cl xj rr)
    (hs1 : ∀ x, foldedSetIterable iter1 (compEnvC scope cl C env) x = pure x)
    (hr : ∀ j, rr j ≤ 3) (hv : ∀ j t : Nat, j < 3 → 1 ≤ t → t ≤ rr j → valid (j : Int) (t : Int))
    (hnI : ∀ p ∈ news, p.1 < I0) (hID : I0 < D) (hDC : D < C)
    (hst : MaySt s h₀ L m news valid xj D C I0 [(I0, riObj 0 3)] jv 0 s₁)
    (hR : ∀ s' jv, MaySt s h₀ L m news valid xj D C I0 [] jv (tot rr 3) s' → R (.ok .next) s') :
    codeAny (model prog w) A (.compLoop (nest elt iter0 iter1 xj xt pj pt scope pos) 0 (.ref I0) (.ref D) (compEnvC scope cl C env)) R s₁ := by
  have lo : ∀ p ∈ news, p.1 ≠ D ∧ p.1 ≠ C ∧ p.1 ≠ I0 := fun p hp => by
    have h1 : @LT.lt Nat _ p.1 I0 := hnI p hp
    exact ⟨Nat.ne_of_lt (by omega), Nat.ne_of_lt (by omega), Nat.ne_of_lt h1⟩
  have htot : ∀ i, i ≤ 2 → tot rr i ≤ 6 := fun i hi => by
    have h0 := hr 0; have h1 := hr 1
    have : i = 0 ∨ i = 1 ∨ i = 2 := by omega
    rcases this with rfl | rfl | rfl <;> simp only [tot] <;> omega
  refine nest_loop_outer (fun n s' => ∃ i jv, i ≤ 3 ∧ n = 4 - i ∧ MaySt s h₀ L m news valid xj D C I0 [(I0, riObj (i : Int) (3 - (i : Int)))] jv (tot rr i) s') hs1 ?_ 4 ⟨0, jv, by omega, rfl, ?_⟩
  · rintro n s' ⟨i, jv, hi, rfl, h', tk, oC, m', vs, tups, rfl, F, N, hC, hj, hM, hl, hT⟩
    have mC : (C, oC) ∈ (C, oC) :: (news ++ ((D, LCg.lst vs) :: ([(I0, riObj (i : Int) (3 - (i : Int)))] ++ tups))) := .head _
    have mI : (I0, riObj (i : Int) (3 - (i : Int))) ∈ (C, oC) :: (news ++ ((D, LCg.lst vs) :: ([(I0, riObj (i : Int) (3 - (i : Int)))] ++ tups))) := by simp
    have hit : IsRangeIter h' I0 (i : Int) (3 - (i : Int)) 1 := (N _ mI).1
    have hIL := (N _ mI).2.1
    have hI0 := (N _ mI).2.2
    have hCL := (N _ mC).2.1
    have hC0 := (N _ mC).2.2
    by_cases hir : i < 3
    · refine wpAny_pyNext_range_item hit (by omega) fun h₁ hit₁ hs₁ => ?_
      have F₁ : Fr h₀ L h₁ m := fr_rest F hs₁.extBut hI0 hIL
      have N₁ : News h₀ L h₁ ((C, oC) :: (news ++ ((D, LCg.lst vs) :: tups))) := by
        refine news_but2 (news_sub N fun p hp => ?_) hs₁.extBut fun p hp => ?_
        · simp only [List.mem_cons, List.mem_append, List.cons_append, List.nil_append] at hp ⊢
          rcases hp with h | h | h | h <;> simp [h]
        · simp only [List.mem_cons, List.mem_append] at hp
          rcases hp with rfl | h | rfl | h
          · exact Nat.ne_of_gt (Nat.lt_trans hID hDC)
          · exact (lo p h).2.2
          · exact Nat.ne_of_gt hID
          · exact Nat.ne_of_gt (Nat.lt_trans (Nat.lt_trans hID hDC) (hT p h).1)
      have hnC : h₁.Ns C m' := hC.ns (N₁ _ (.head _)).1
      refine wpAny_assign_Name (wpAny_storeName_local (lookup_relabel_local hxj) hnC (fun h₂ hn₂ hs₂ => ?_) (by simp [compEnvC, relabel, hkind]))
      have F₂ : Fr h₀ L h₂ m := fr_rest F₁ hs₂.extBut hC0 hCL
      obtain ⟨oC₂, hoC₂, hC₂⟩ := LCg.ns_obj hn₂
      have hI₂ : h₂.get? I0 = some (riObj ((i : Int) + 1) (3 - (i : Int) - 1)) := (hs₂.2 _ (Nat.ne_of_lt (Nat.lt_trans hID hDC))).trans hit₁
      have N₂ : News h₀ L h₂ ((C, oC₂) :: (news ++ ((D, LCg.lst vs) :: (I0, riObj ((i : Int) + 1) (3 - (i : Int) - 1)) :: tups))) := by
        refine news_cons hoC₂ hCL hC0 ?_
        have N₁' : News h₀ L h₂ (news ++ ((D, LCg.lst vs) :: tups)) := by
          refine news_but2 (news_sub N₁ fun p hp => .tail _ hp) hs₂.extBut fun p hp => ?_
          simp only [List.mem_cons, List.mem_append] at hp
          rcases hp with h | rfl | h
          · exact (lo p h).2.1
          · exact Nat.ne_of_lt hDC
          · exact Nat.ne_of_gt (hT p h).1
        intro p hp
        by_cases q : p = (I0, riObj ((i : Int) + 1) (3 - (i : Int) - 1))
        · rw [q]; exact ⟨hI₂, hIL, hI0⟩
        · refine N₁' p ?_
          simp only [List.mem_cons, List.mem_append] at hp ⊢
          rcases hp with h | h | h | h
          · exact .inl h
          · exact .inr (.inl h)
          · exact absurd h q
          · exact .inr (.inr h)
      refine hI C oC₂ _ i tk h₂ _ ((D, LCg.lst vs) :: (I0, riObj ((i : Int) + 1) (3 - (i : Int) - 1)) :: tups) hir hC₂ (by simp) F₂ N₂ _ fun h₃ tk₃ r t u v hr₃ F₃ N₃ => ?_
      have hri := hr i
      have sm : Builtin.Range.small 1 ((rr i : Int) + 1) 1 = true := small_one (by omega) (by omega) (by omega) (by omega)
      have es : Builtin.Range.rangeSize 1 ((rr i : Int) + 1) 1 = (rr i : Int) := by
        rw [rangeSize_one]; split <;> omega
      refine wpAny_pyIter_range hr₃ sm ?_
      rw [es]
      have lt3 : ∀ p ∈ (C, oC₂) :: (news ++ ((D, LCg.lst vs) :: (I0, riObj ((i : Int) + 1) (3 - (i : Int) - 1)) :: tups)), p.1 < h₃.objs.size := fun p hp => Heap.lt_size (N₃ p hp).1
      have hCI : @LT.lt Nat _ C h₃.objs.size := lt3 (C, oC₂) (.head _)
      have F₄ : Fr h₀ L (h₃.push (riObj 1 (rr i : Int))) m := F₃.push _
      have N₄ : News h₀ L (h₃.push (riObj 1 (rr i : Int))) ((h₃.objs.size, riObj 1 (rr i : Int)) :: (C, oC₂) :: (news ++ ((D, LCg.lst vs) :: (I0, riObj ((i : Int) + 1) (3 - (i : Int) - 1)) :: tups))) := News.push F₃ N₃ (riObj 1 (rr i : Int)) rfl
      have hst₄ : MaySt s h₀ L m news valid xj D C I0 [(h₃.objs.size, riObj 1 (rr i : Int)), (I0, riObj ((i : Int) + 1) (3 - (i : Int) - 1))] (some (.int (i : Int) tk)) (tot rr i) { s with heap := h₃.push (riObj 1 (rr i : Int)), toks := tk₃ } := by
        refine ⟨_, _, oC₂, _, vs, tups, rfl, F₄, news_sub N₄ fun p hp => ?_, hC₂, by simp, hM, hl, fun p hp => ⟨(hT p hp).1, fun q hq => ?_⟩⟩
        · simp only [List.mem_cons, List.mem_append, List.cons_append, List.nil_append] at hp ⊢
          rcases hp with h | h | h | h | h | h <;> simp [h]
        · simp only [List.mem_cons, List.not_mem_nil, or_false] at hq
          rcases hq with rfl | rfl
          · exact Nat.ne_of_lt (lt3 p (by simp [hp]))
          · exact Nat.ne_of_gt (Nat.lt_trans (Nat.lt_trans hID hDC) (hT p hp).1)
      have key : codeAny (model prog w) A (.compLoop (nest elt iter0 iter1 xj xt pj pt scope pos) 1 (.ref h₃.objs.size) (.ref D) (compEnvC scope cl C env))
          (fun r s₅ => match r with | .ok _ => ∃ m_1, m_1 < 4 - i ∧ ∃ i_1 jv, i_1 ≤ 3 ∧ m_1 = 4 - i_1 ∧ MaySt s h₀ L m news valid xj D C I0 [(I0, riObj (i_1 : Int) (3 - (i_1 : Int)))] jv (tot rr i_1) s₅ | .error _ => False) { s with heap := h₃.push (riObj 1 (rr i : Int)), toks := tk₃ } := by
        refine may_inner hh hkind hxt hjt hE hri (htot i (by omega)) (fun t ht1 ht2 => hv i t hir ht1 ht2) hnI hID hDC hCI hst₄ fun s' hs' => ?_
        refine ⟨4 - (i + 1), by omega, i + 1, some (.int (i : Int) tk), by omega, rfl, ?_⟩
        have e1 : ((i + 1 : Nat) : Int) = (i : Int) + 1 := by omega
        have e2 : (3 : Int) - ((i : Int) + 1) = 3 - (i : Int) - 1 := by omega
        rw [e1, e2]
        exact hs'
      exact nest_start (.inr rfl) key (wpAny_pyIter_rangeiter (x := 1) (left := (rr i : Int)) (step := 1) (N₄ _ (.head _)).1 key)
    · have hir' : i = 3 := by omega
      subst hir'
      refine wpAny_pyNext_range_end hh hit (by omega) fun h₁ hs₁ => ?_
      refine hR _ jv ⟨h₁, tk, oC, m', vs, tups, rfl, fr_rest F hs₁ hI0 hIL, ?_, hC, hj, hM, hl, fun p hp => ⟨(hT p hp).1, fun q hq => (nomatch hq)⟩⟩
      refine news_but2 (news_sub N fun p hp => ?_) hs₁ fun p hp => ?_
      · simp only [List.mem_cons, List.mem_append, List.cons_append, List.nil_append] at hp ⊢
        rcases hp with h | h | h | h <;> simp [h]
      · simp only [List.mem_cons, List.mem_append, List.cons_append, List.nil_append] at hp
        rcases hp with rfl | h | rfl | h
        · exact Nat.ne_of_gt (Nat.lt_trans hID hDC)
        · exact (lo p h).2.2
        · exact Nat.ne_of_gt hID
        · exact Nat.ne_of_gt (Nat.lt_trans (Nat.lt_trans hID hDC) (hT p h).1)
  · have e1 : ((0 : Nat) : Int) = 0 := rfl
    have e2 : (3 : Int) - 0 = 3 := rfl
    rw [e1, e2]
    exact hst
end

section
variable {prog : Program} {w : World} {A : Around} {s : Shared} {env : Env} {h₀ : Heap} {L : Addr} {m : Str → Option Value} {news : List (Addr × Obj)}
  {elt iter0 iter1 : Expr} {xj xt : Str} {pj pt : Pos} {scope : Scope} {cl : List (Str × Addr)} {pos spos py : Pos} {y : Str}

theorem dm_may {valid : Int → Int → Prop} {rr : Nat → Nat} {Q : Flow → Shared → Prop}
    (F : Fr h₀ L s.heap m) (N : News h₀ L s.heap news) (hLe : env.locals = L) (hh : A.handled = none)
    (hsw : swapsWith (nest elt iter0 iter1 xj xt pj pt scope pos) (some (.Name y py)) spos.line env = pure true)
    (hclos : closureFor scope env = pure cl) (hcell : ∀ z ∈ scope.names, z.2 ≠ .cell) (hkind : scope.kind = .function)
    (hnames : ∀ z ∈ scope.names, z.2 = .local → scope.names.lookup z.1 = some .local) (hxj : scope.names.lookup xj = some .local) (hxt : scope.names.lookup xt = some .local) (hjt : xj ≠ xt)
    (hy : env.kindOf y = some .local) (hp : (env.scope.kind == .class || (env.scope.kind == .module && env.locals != env.globals)) = false)
    (hs0 : ∀ x, foldedSetIterable iter0 env x = pure x) (hs1 : ∀ C x, foldedSetIterable iter1 (compEnvC scope cl C env) x = pure x)
    (h0 : ∀ Q' : Value → Shared → Prop, (∀ h' tk r t u v, IsRange h' r 0 3 1 t u v → Fr h₀ L h' m → News h₀ L h' news → Q' (.ref r) { s with heap := h', toks := tk }) →
      wpAny (model prog w) A (eval iter0 env) Q' (fun _ _ => False) s)
    (hE : EltOk prog w A s h₀ L m news env elt scope cl xj xt) (hI : IterOk prog w A s h₀ L m news env iter1 scope cl xj rr)
    (hr : ∀ j, rr j ≤ 3) (hv : ∀ j t : Nat, j < 3 → 1 ≤ t → t ≤ rr j → valid (j : Int) (t : Int))
    (done : ∀ (D : Nat) (vs : List Value) (tups : List (Addr × Obj)) (h' : Heap) (tk : Nat), Fr h₀ L h' (fun z => if z = y then some (.ref D) else m z) → News h₀ L h' ((D, LCg.lst vs) :: (news ++ tups)) → Mayed valid tups vs → vs.length = tot rr 3 →
      Q .next { s with heap := h', toks := tk }) :
    wpAny (model prog w) A (exec (.Assign [.Name y py] (nest elt iter0 iter1 xj xt pj pt scope pos) spos) env) Q (fun _ _ => False) s := by
  subst hLe
  rw [exec_Assign_Name_used _ _ _ _ hsw]
  refine wpAny_bind (wpAny_standAt (wpAny_bind ?_))
  show wpAny _ A (do let _ ← comprehension (nest elt iter0 iter1 xj xt pj pt scope pos) scope env _ (newList []) false (eval iter0 env) (some (assign (.Name y py) env))) _ _ s
  refine wpAny_bind (wpAny_mono (wpAny_comprehension_free (use := some (assign (.Name y py) env)) (Q := fun _ s' => Q .next s') rfl hs0 hclos hkind hnames
    (h0 _ fun h₁ tk₁ r t u v hr₁ F₁ N₁ => ?_)) (fun _ s' hq => wpAny_pure (wpAny_pure hq)) fun _ _ e => e)
  refine wpAny_pyIter_range hr₁ (by decide) ?_
  have es : Builtin.Range.rangeSize 0 3 1 = 3 := by decide
  rw [es]
  have F₂ : Fr h₀ env.locals (h₁.push (riObj 0 3)) m := F₁.push _
  have N₂ : News h₀ env.locals (h₁.push (riObj 0 3)) ((h₁.objs.size, riObj 0 3) :: news) := News.push F₁ N₁ (riObj 0 3) rfl
  have lt1 : ∀ p ∈ news, p.1 < h₁.objs.size := fun p hp => Heap.lt_size (N₁ p hp).1
  refine wpAny_newObj_type (wpAny_newFunctionEnv hcell (by intro y hy; simp at hy) (fun h₃ hns₃ hsb₃ => ?_) hkind)
  dsimp only at hns₃ hsb₃ ⊢
  generalize hH : (h₁.push (riObj 0 3)).push { cls := .type "list", dict := none, data := .seq ([] : List Value).toArray } = H at hns₃ hsb₃ ⊢
  have hC : H.objs.size = h₁.objs.size + 1 + 1 := by rw [← hH, Heap.size_push, Heap.size_push]
  have hDsz : (h₁.push (riObj 0 3)).objs.size = h₁.objs.size + 1 := Heap.size_push ..
  have F₃' : Fr h₀ env.locals H m := hH ▸ F₂.push _
  have N₃' : News h₀ env.locals H ((h₁.objs.size + 1, LCg.lst []) :: (h₁.objs.size, riObj 0 3) :: news) := by
    have q := News.push F₂ N₂ (LCg.lst []) rfl
    rw [hDsz] at q
    exact hH ▸ q
  have hlt3 : ∀ p ∈ (h₁.objs.size + 1, LCg.lst []) :: (h₁.objs.size, riObj 0 3) :: news, p.1 ≠ H.objs.size := fun p hp => Nat.ne_of_lt (Heap.lt_size (N₃' p hp).1)
  have hCL : H.objs.size ≠ env.locals := by obtain ⟨oL, _, _, hoL, _⟩ := F₃'.ns; exact Nat.ne_of_gt (Heap.lt_size hoL)
  have hC0 : h₀.get? H.objs.size = none := by
    cases hq : h₀.get? H.objs.size with
    | none => rfl
    | some o' => exact absurd (Heap.lt_size (F₃'.keep _ _ hq)) (Nat.lt_irrefl _)
  have up : ∀ b o, H.get? b = some o → b ≠ H.objs.size → h₃.get? b = some o := fun b o e hb => hsb₃.extBut b o hb (Heap.get?_push_of_some _ e)
  have F₃ : Fr h₀ env.locals h₃ m := fr_rest F₃' (fun b o hb e => up b o e hb) hC0 hCL
  obtain ⟨oC, hoC, hnC⟩ := LCg.ns_obj hns₃
  have N₃ : News h₀ env.locals h₃ ((h₁.objs.size + 1, LCg.lst []) :: (h₁.objs.size, riObj 0 3) :: news) := news_but2 N₃' (fun b o hb e => up b o e hb) hlt3
  rw [hDsz]
  obtain ⟨jv, hst⟩ : ∃ jv, MaySt s h₀ env.locals m news valid xj (h₁.objs.size + 1) H.objs.size h₁.objs.size [(h₁.objs.size, riObj 0 3)] jv 0 { s with heap := h₃, toks := tk₁ } := by
    refine ⟨_, h₃, tk₁, oC, _, [], [], rfl, F₃, news_cons hoC hCL hC0 (news_sub N₃ fun p hp => ?_), hnC, rfl, (fun v hv => nomatch hv), rfl, (fun p hp => nomatch hp)⟩
    simp only [List.mem_cons, List.mem_append, List.append_nil, List.not_mem_nil, or_false] at hp ⊢
    rcases hp with h | h | h <;> simp [h]
  have key : codeAny (model prog w) A (.compLoop (nest elt iter0 iter1 xj xt pj pt scope pos) 0 (.ref h₁.objs.size) (.ref (h₁.objs.size + 1)) (compEnvC scope cl H.objs.size env))
      (compPost (model prog w) A (fun _ _ => False) (some (assign (.Name y py) env)) (fun _ s' => Q .next s') (.ref (h₁.objs.size + 1)) H.objs.size) { s with heap := h₃, toks := tk₁ } := by
    refine may_outer hh hkind hxj hxt hjt hE hI (hs1 _) hr hv lt1 (Nat.lt_succ_self _) (by rw [hC]; exact Nat.lt_succ_self _) hst fun s' jv hs' => ?_
    obtain ⟨h', tk, oC', m', vs, tups, rfl, F', N', hC', hj, hM, hl, hT⟩ := hs'
    show wpAny _ A (assign (.Name y py) env (.ref (h₁.objs.size + 1))) _ _ _
    refine wpAny_assign_Name (wpAny_storeName_local hy F'.ns (fun h₅ hn₅ hs₅ => ?_) hp)
    have F₅ := F'.set hn₅ hs₅
    have N₅ := N'.set hs₅
    refine ⟨m', hC'.ns (N₅ _ (.head _)).1, fun h₆ hs₆ => ?_⟩
    refine done (h₁.objs.size + 1) vs tups h₆ _ (fr_rest F₅ hs₆.extBut hC0 hCL) ?_ hM hl
    refine news_but2 (news_sub N₅ fun p hp => ?_) hs₆.extBut fun p hp => ?_
    · simp only [List.mem_cons, List.mem_append, List.nil_append] at hp ⊢
      rcases hp with h | h | h <;> simp [h]
    · simp only [List.mem_cons, List.mem_append] at hp
      rcases hp with rfl | h | h
      · show h₁.objs.size + 1 ≠ H.objs.size
        rw [hC]; exact Nat.ne_of_lt (Nat.lt_succ_self _)
      · have := lt1 p h
        rw [hC]; exact Nat.ne_of_lt (Nat.lt_succ_of_lt (Nat.lt_succ_of_lt this))
      · exact Nat.ne_of_gt (hT p h).1
  exact nest_start (.inl rfl) key (wpAny_pyIter_rangeiter (x := 0) (left := 3) (step := 1) (N₃ _ (.tail _ (.head _))).1 key)
end
section
variable {prog : Program} {w : World} {A : Around} {E : Value → Shared → Prop} {s : Shared} {h₀ : Heap} {L D : Addr} {news tups : List (Addr × Obj)} {vs : List Value} {Q : Value → Shared → Prop} {value slice : PySem.Expr} {x : Int} {u : Tok} {ops : List Value} {valid : Int → Int → Prop}
theorem dm_len_lst (N : News h₀ L s.heap news) (hm : (D, LCg.lst vs) ∈ news) (hl : vs.length ≤ 9) (h : Q (.int (vs.length : Nat) (s.toks + 1)) { s with toks := s.toks + 1 + 1 }) :
    wpAny (model prog w) A (call (.builtin "len") [.ref D]) Q E s := KM.len_K N hm (by simp) (by omega) h
theorem dm_mayAt (N : News h₀ L s.heap news) (hm : (D, LCg.lst vs) ∈ news) (ht : ∀ p ∈ tups, p ∈ news) (hM : Mayed valid tups vs) (h1 : 1 ≤ vs.length) (hl : vs.length ≤ 9)
    (h : ∀ (T : Nat) (j t : Int) (tj tt : Tok), valid j t → News h₀ L s.heap ((T, tupObj [.int j tj, .int t tt]) :: news) → Q (.ref T) s)
    (hs : subscripted slice false (.ref D) (.int (x.fmod (vs.length : Nat)) u) = operate ops (getItem (.ref D) (.int (x.fmod (vs.length : Nat)) u))) :
    wpAny (model prog w) A (subscriptTail value slice (.ref D) (.int (x.fmod (vs.length : Nat)) u)) Q E s := by
  have hL : s.heap.IsList D vs.toArray := ⟨_, (N _ hm).1, rfl, _, rfl⟩
  have p1 := Int.fmod_nonneg_of_pos x (b := (vs.length : Int)) (by omega)
  have p2 := Int.fmod_lt_of_pos x (b := (vs.length : Int)) (by omega)
  have hlt : (x.fmod (vs.length : Nat)).toNat < vs.length := by omega
  obtain ⟨T, j, t, tj, tt, e, hmem, hv⟩ := hM vs[(x.fmod (vs.length : Nat)).toNat] (List.getElem_mem hlt)
  refine tail_any hL.typeIs slot_list_getitem.lookup (wpAny_getItem_list hL p1 (by omega) (x := .ref T) ?_ (h T j t tj tt hv ?_)) hs
  · rw [List.getElem?_toArray, List.getElem?_eq_getElem hlt, e]
  · intro p hp
    rcases List.mem_cons.mp hp with rfl | hp
    · exact N _ (ht _ hmem)
    · exact N p hp
end

local macro_rules | `(tactic| walk_at "subscriptTail Name Slice ref ref") => `(tactic| (k_here; (with_reducible show wpAny _ _ (subscriptTail _ (PySem.Expr.Slice _ _ (some _) _) (Value.ref _) (Value.ref _)) _ _ _); k_dflt (refine' dm_slice3 ?F ?N ?l ?p ?q ?k ?o ?i ?_ ?s ?t ?z; (case F => k_asm); (case N => k_asm); (case l => kmk_list); (case p => kmk_part); (case q => kmk_part); (case k => kmk_part); (case o => decide); (case i => l_ints); (case s => with_unfolding_all rfl); (case t => kmk_pure); (case z => kmk_size)); intro D' ws' ms' h' F' N' l1 hI' hL'; (try k_lt l1); (try k_sweep)))
local macro_rules | `(tactic| walk_at "binaryOp Add int int") => `(tactic| (k_here; (with_reducible show wpAny _ _ (binaryOp Operator.Add (Value.int 1 _) (Value.int (Int.fmod _ 3) _)) _ _ _); (refine dm_most ?_); intro most' hm1' hm3'))
local macro_rules | `(tactic| walk_at "newList") => `(tactic| (k_here; (with_reducible show wpAny _ _ (newList [Value.int (1 + Int.fmod _ 6) _, Value.int (Int.fmod (4 + _) 7) _, Value.int (Int.fmod (2 + _) 7) _]) _ _ _); k_dflt (refine' dm_newHeaps ?F ?N ?_; (case F => k_asm); (case N => k_asm)); intro n0' n1' n2' hn1' hn2' hn3' hn4' hn5' hn6' l' h' F' N' l1; (try k_lt l1); (try k_sweep)))
local macro_rules | `(tactic| walk_at "binaryOp Mult ref int") => `(tactic| (k_here; (with_reducible show wpAny _ _ (binaryOp Operator.Mult (Value.ref _) (Value.int _ _)) _ _ _); (try simp only [Int.reduceToNat, List.getD_cons_zero, List.getD_cons_succ]); k_dflt (refine' dm_list_times ?F ?N ?p ?q ?_; (case F => k_asm); (case N => k_asm); (case p => omega); (case q => omega)); intro D' h' F' N' l1; (try k_lt l1); (try k_sweep)))
local macro_rules | `(tactic| walk_at "binaryOp Mult ref int") => `(tactic| (k_here; (with_reducible show wpAny _ _ (binaryOp Operator.Mult (Value.ref _) (Value.int _ _)) _ _ _); (try simp only [Int.reduceToNat, List.getD_cons_zero, List.getD_cons_succ]); k_dflt (refine' dm_tuple_times ?F ?N ?l ?p ?q ?_; (case F => k_asm); (case N => k_asm); (case l => (repeat (first | exact List.forall_mem_nil _ | refine List.forall_mem_cons.mpr ⟨ltN (by (try dsimp only); omega), ?_⟩))); (case p => omega); (case q => omega)); intro D' h' F' N' l1; (try k_lt l1); (try k_sweep)))
local macro_rules | `(tactic| walk_at "call builtin:iter") => `(tactic| (k_here; (with_reducible show wpAny _ _ (call (Value.builtin "iter") [Value.ref _]) _ _ _); k_dflt (first
  | (refine dm_iter_list (by k_asm) (by k_asm) (by k_mem) ?_; intro I' h' hz' F' N' l1)
  | (refine dm_iter_tuple (by k_asm) (by k_asm) (by k_mem) ?_; intro I' h' hz' F' N' l1)
  | ((rename IsRange _ _ _ _ _ _ _ _ => rgX); (simp only [Int.reduceToNat, List.getD_cons_zero, List.getD_cons_succ] at rgX); refine dm_iter_range (by k_asm) (by k_asm) rgX (by omega) (by omega) ?_; intro I' h' F' N' l1)); (try k_lt l1); (try k_sweep)))
local macro_rules | `(tactic| walk_at "call ref") => `(tactic| (k_here; (with_reducible show wpAny _ (Around.deeper callerA _) (call (Value.ref 22) [Value.ref _, Value.int (-1) _]) _ _ _); k_dflt (first
  | refine lh_li (by k_asm) (by k_asm) (by k_asm) (by k_asm) rfl rfl (by k_mem) (by k_mem) (by assumption) (by omega) ?_
  | refine lh_ti (by k_asm) (by k_asm) (by k_asm) (by k_asm) rfl rfl (by k_mem) (by k_mem) (by assumption) (by omega) ?_
  | refine lh_ri (by k_asm) (by k_asm) (by k_asm) (by k_asm) rfl rfl (by k_mem) (by omega) ?_); intro h' tk' u' F' N'; (try dsimp only); (try k_sweep)))
local macro_rules | `(tactic| walk_at "CompRest") => `(tactic| (with_unfolding_all first
  | (refine LCg.CompRest.succ ?_; intro v' I' oI' C' oC' D' m' h' tk' E' hv' hC' hx' F' N' off' ne'; clear ne'; (first | lcg_open hv' | (obtain ⟨t9', hv9'⟩ := hv'; subst hv9')))
  | refine LCg.CompRest.zero ?_))
local macro_rules | `(tactic| walk_at "CompRestT") => `(tactic| (with_unfolding_all first
  | (refine LCt.CompRestT.succ ?_; intro v' I' oI' C' oC' D' m' h' tk' E' hv' hC' hx' F' N' off' ne'; clear ne'; (first | lcg_open hv' | (obtain ⟨t9', hv9'⟩ := hv'; simp at hv9'; subst hv9')); (try k_sweep))
  | refine LCt.CompRestT.zero ?_))
local macro_rules | `(tactic| walk_at "binaryOp Mod int int") => `(tactic| (k_here; (with_reducible show wpAny _ _ (binaryOp Operator.Mod (Value.int _ _) (Value.int (_ + 1) _)) _ _ _); (refine dm_mod (by omega) (by omega) (by omega) ?_); intro r' hr' hr0' hr1' hr2'; (try dsimp only)))
local macro_rules | `(tactic| walk_at "binaryOp BitXor int int") => `(tactic| (k_here; (with_reducible show wpAny _ _ (binaryOp Operator.BitXor (Value.int _ _) (Value.int _ _)) _ _ _); (try simp only [Int.reduceToNat, List.getD_cons_zero, List.getD_cons_succ]); (refine dm_xor ?_); intro r' hr'; (try dsimp only)))

local macro_rules | `(tactic| walk_at "CompEnd") => `(tactic| (k_dflt (refine dm_compEnd (by assumption) (by assumption) (by assumption) (by lcg_src) ?_)))
local macro_rules | `(tactic| walk_at "FinE") => `(tactic| ((unfold LCg.FinE); intro D' h' tk' F' N' o1'; (try simp only [List.nil_append, List.cons_append] at N'); (try dsimp only); (try k_sweep)))
local macro_rules | `(tactic| walk_at "FinA") => `(tactic| ((unfold LCg.FinA); intro D' h' tk' F' N' o1'; (try simp only [List.nil_append, List.cons_append] at N'); (try dsimp only); (try k_sweep)))
local macro_rules | `(tactic| k_ne) => `(tactic| (refine neN ?_; (try dsimp only); first | (exact dm_off1 (by assumption) (by k_mem)) | (exact Ne.symm (dm_off1 (by assumption) (by k_mem))) | omega))
local macro_rules | `(tactic| walk_at "call builtin:next") => `(tactic| (k_here; (with_reducible show wpAny _ _ (call (Value.builtin "next") [Value.ref _, _]) _ _ _); k_dflt (first
  | (refine' dm_next_li ?F ?N ?U ?l ?i ?_; (case F => k_asm); (case N => k_asm); (case U => k_updF); (case l => k_mem); (case i => omega))
  | (refine' dm_next_ti ?F ?N ?U ?l ?i ?_; (case F => k_asm); (case N => k_asm); (case U => k_updF); (case l => k_mem); (case i => omega))
  | (refine' dm_next_ri ?F ?N ?U ?i ?_; (case F => k_asm); (case N => k_asm); (case U => k_updF); (case i => omega))); intro h' F' N'; (try dsimp only at N'); (try dsimp only); (try k_sweep)))
local macro_rules | `(tactic| walk_at "storeName") => `(tactic| (k_here; (with_reducible show wpAny _ _ (storeName _ _ (Value.int (List.getD _ _ _) _)) _ _ _); (simp only [Int.reduceToNat, List.getD_cons_zero, List.getD_cons_succ]); walk_at "storeName"))
local macro_rules | `(tactic| walk_at "compareOp Lt int int") => `(tactic| (k_here; (with_reducible show wpAny _ _ (compareOp CmpOp.Lt (Value.int _ _) (Value.int (List.getD _ _ _) _)) _ _ _); (simp only [Int.reduceToNat, List.getD_cons_zero, List.getD_cons_succ]); walk_at "compareOp Lt int int"))
local macro_rules | `(tactic| walk_at "compareOp Gt int int") => `(tactic| (k_here; (with_reducible show wpAny _ _ (compareOp CmpOp.Gt (Value.int _ _) (Value.int (List.getD _ _ _) _)) _ _ _); (simp only [Int.reduceToNat, List.getD_cons_zero, List.getD_cons_succ]); walk_at "compareOp Gt int int"))

set_option maxHeartbeats 8000000 in
theorem tail0 {w : World} {s : Shared} {h₀ : Heap} {L fa : Nat} {cd : Value} {m mg mb : Str → Option Value} {mean : ExcName → Option Value}
    {aHands aNums aHeaps i0 i1 i2 ls tp : Nat} {most n0 n1 a b c x2 turn cnt : Int} {v0 v1 : Value} {ws : List Value} {t0 t1 t2 tm tt tk tc : Tok} {e j0 j1 : Nat} {oW oT oH oM : Obj} {cW cT : Option Value} {mine last : Bool}
    (X₀ : (hd.heap_39 w.params).In h₀) (T : Top hd.view_39 (looseW hd.view_39 [Str.ofString "length_hint"]) mean mg mb h₀)
    (F : Fr h₀ L s.heap (pickMap m aHands aNums turn tt mine last 0 cnt tk tc))
    (N : News h₀ L s.heap (gameNews L aHands aNums aHeaps i0 i1 i2 ls tp n0 n1 v0 v1 ws a b c t0 t1 t2 e j0 j1 x2 oW oT oH oM))
    (l1 : gameChain L aHands aNums aHeaps i0 i1 i2 ls tp)
    (dW : oW.data = .cell cW) (dT : oT.data = .cell cT) (dH : oH.data = .cell (some (.ref aHeaps))) (dM : oM.data = .cell (some (.int most tm)))
    (ha : 0 ≤ a) (hb : 0 ≤ b) (hc : 0 ≤ c) (hc1 : 1 ≤ cnt) (hc3 : cnt ≤ 3) (hca : cnt ≤ a)
    (hz0 : (j0 : Int) + a = n0) (hz1 : (j1 : Int) + b = n1) :
    wpAny (model PySem.Challenge.rw_dm0224_01.row.prog w) (callerA.deeper (lawEnv L fa cd)) (execs lawRest (lawEnv L fa cd))
      (TurnPost h₀ L aHands aNums aHeaps i0 i1 i2 ls tp n0 n1 v0 v1 ws oH oM (a - cnt) b c mine s) (fun _ _ => False) s := by
  revert X₀
  k_fill
  intro X₀
  unfold lawRest lawTurn lawWhile lawEnv lawBody lawScope PySem.Challenge.pw_dm0224_01
  dsimp only [List.drop]
  unfold pickMap at F
  unfold gameNews gameNewsG at N
  unfold gameChain at l1
  obtain ⟨n, rfl⟩ : ∃ n : Nat, cnt = (n : Int) := ⟨cnt.toNat, by omega⟩
  walk1
  refine dm_for (h₀ := h₀) (L := L) (m := pickMap m aHands aNums turn tt mine last 0 n tk tc) (b := n) (fun i => gameNewsG L aHands aNums aHeaps i0 i1 i2 ls tp n0 n1 v0 v1 ws a b c t0 t1 t2 e (j0 + i) j1 x2 c oW oT oH oM) rfl rfl rfl rfl (by omega) ?_ ?_ ?_ ?_
  · intro i p hp
    simp only [gameNewsG, List.mem_cons, List.not_mem_nil, or_false] at hp ⊢
    rcases hp with rfl | rfl | rfl | rfl | rfl | rfl | rfl | rfl | rfl | rfl | rfl | rfl <;> simp
  · intro Q' hQ
    unfold pickMap gameNewsG at hQ
    simp only [Nat.add_zero] at hQ
    k_steps
    exact hQ _ _ _ _ _ _ (by assumption) (by assumption) (by assumption)
  · intro i I oI tk1 tk2 h hi lt F N
    unfold gameNewsG at N lt
    unfold pickMap at F
    k_lt lt
    k_steps
    refine ⟨rfl, _, _, _, rfl, by assumption, ?_, ?_⟩
    · intro y hy
      rw [if_neg hy]
    · assumption
  · intro h' tk1 u F N
    unfold gameNewsG at N
    unfold pickMap at F
    k_steps
    (rename Fr _ _ _ _ => FZ)
    (rename News _ _ _ _ => NZ)
    exact ⟨rfl, _, _, rfl, _, _, _, _, _, _, _, _, _, _, _, _, _, _, fr_game FZ rfl rfl rfl rfl rfl, NZ, dW, dT, by omega, by omega⟩
set_option maxHeartbeats 8000000 in
theorem tail1 {w : World} {s : Shared} {h₀ : Heap} {L fa : Nat} {cd : Value} {m mg mb : Str → Option Value} {mean : ExcName → Option Value}
    {aHands aNums aHeaps i0 i1 i2 ls tp : Nat} {most n0 n1 a b c x2 turn cnt : Int} {v0 v1 : Value} {ws : List Value} {t0 t1 t2 tm tt tk tc : Tok} {e j0 j1 : Nat} {oW oT oH oM : Obj} {cW cT : Option Value} {mine last : Bool}
    (X₀ : (hd.heap_39 w.params).In h₀) (T : Top hd.view_39 (looseW hd.view_39 [Str.ofString "length_hint"]) mean mg mb h₀)
    (F : Fr h₀ L s.heap (pickMap m aHands aNums turn tt mine last 1 cnt tk tc))
    (N : News h₀ L s.heap (gameNews L aHands aNums aHeaps i0 i1 i2 ls tp n0 n1 v0 v1 ws a b c t0 t1 t2 e j0 j1 x2 oW oT oH oM))
    (l1 : gameChain L aHands aNums aHeaps i0 i1 i2 ls tp)
    (dW : oW.data = .cell cW) (dT : oT.data = .cell cT) (dH : oH.data = .cell (some (.ref aHeaps))) (dM : oM.data = .cell (some (.int most tm)))
    (ha : 0 ≤ a) (hb : 0 ≤ b) (hc : 0 ≤ c) (hc1 : 1 ≤ cnt) (hc3 : cnt ≤ 3) (hca : cnt ≤ b)
    (hz0 : (j0 : Int) + a = n0) (hz1 : (j1 : Int) + b = n1) :
    wpAny (model PySem.Challenge.rw_dm0224_01.row.prog w) (callerA.deeper (lawEnv L fa cd)) (execs lawRest (lawEnv L fa cd))
      (TurnPost h₀ L aHands aNums aHeaps i0 i1 i2 ls tp n0 n1 v0 v1 ws oH oM a (b - cnt) c mine s) (fun _ _ => False) s := by
  revert X₀
  k_fill
  intro X₀
  unfold lawRest lawTurn lawWhile lawEnv lawBody lawScope PySem.Challenge.pw_dm0224_01
  dsimp only [List.drop]
  unfold pickMap at F
  unfold gameNews gameNewsG at N
  unfold gameChain at l1
  obtain ⟨n, rfl⟩ : ∃ n : Nat, cnt = (n : Int) := ⟨cnt.toNat, by omega⟩
  walk1
  refine dm_for (h₀ := h₀) (L := L) (m := pickMap m aHands aNums turn tt mine last 1 n tk tc) (b := n) (fun i => gameNewsG L aHands aNums aHeaps i0 i1 i2 ls tp n0 n1 v0 v1 ws a b c t0 t1 t2 e j0 (j1 + i) x2 c oW oT oH oM) rfl rfl rfl rfl (by omega) ?_ ?_ ?_ ?_
  · intro i p hp
    simp only [gameNewsG, List.mem_cons, List.not_mem_nil, or_false] at hp ⊢
    rcases hp with rfl | rfl | rfl | rfl | rfl | rfl | rfl | rfl | rfl | rfl | rfl | rfl <;> simp
  · intro Q' hQ
    unfold pickMap gameNewsG at hQ
    simp only [Nat.add_zero] at hQ
    k_steps
    exact hQ _ _ _ _ _ _ (by assumption) (by assumption) (by assumption)
  · intro i I oI tk1 tk2 h hi lt F N
    unfold gameNewsG at N lt
    unfold pickMap at F
    k_lt lt
    k_steps
    refine ⟨rfl, _, _, _, rfl, by assumption, ?_, ?_⟩
    · intro y hy
      rw [if_neg hy]
    · assumption
  · intro h' tk1 u F N
    unfold gameNewsG at N
    unfold pickMap at F
    k_steps
    (rename Fr _ _ _ _ => FZ)
    (rename News _ _ _ _ => NZ)
    exact ⟨rfl, _, _, rfl, _, _, _, _, _, _, _, _, _, _, _, _, _, _, fr_game FZ rfl rfl rfl rfl rfl, NZ, dW, dT, by omega, by omega⟩
set_option maxHeartbeats 8000000 in
theorem tail2 {w : World} {s : Shared} {h₀ : Heap} {L fa : Nat} {cd : Value} {m mg mb : Str → Option Value} {mean : ExcName → Option Value}
    {aHands aNums aHeaps i0 i1 i2 ls tp : Nat} {most n0 n1 a b c x2 turn cnt : Int} {v0 v1 : Value} {ws : List Value} {t0 t1 t2 tm tt tk tc : Tok} {e j0 j1 : Nat} {oW oT oH oM : Obj} {cW cT : Option Value} {mine last : Bool}
    (X₀ : (hd.heap_39 w.params).In h₀) (T : Top hd.view_39 (looseW hd.view_39 [Str.ofString "length_hint"]) mean mg mb h₀)
    (F : Fr h₀ L s.heap (pickMap m aHands aNums turn tt mine last 2 cnt tk tc))
    (N : News h₀ L s.heap (gameNews L aHands aNums aHeaps i0 i1 i2 ls tp n0 n1 v0 v1 ws a b c t0 t1 t2 e j0 j1 x2 oW oT oH oM))
    (l1 : gameChain L aHands aNums aHeaps i0 i1 i2 ls tp)
    (dW : oW.data = .cell cW) (dT : oT.data = .cell cT) (dH : oH.data = .cell (some (.ref aHeaps))) (dM : oM.data = .cell (some (.int most tm)))
    (ha : 0 ≤ a) (hb : 0 ≤ b) (hc : 0 ≤ c) (hc1 : 1 ≤ cnt) (hc3 : cnt ≤ 3) (hca : cnt ≤ c)
    (hz0 : (j0 : Int) + a = n0) (hz1 : (j1 : Int) + b = n1) :
    wpAny (model PySem.Challenge.rw_dm0224_01.row.prog w) (callerA.deeper (lawEnv L fa cd)) (execs lawRest (lawEnv L fa cd))
      (TurnPost h₀ L aHands aNums aHeaps i0 i1 i2 ls tp n0 n1 v0 v1 ws oH oM a b (c - cnt) mine s) (fun _ _ => False) s := by
  revert X₀
  k_fill
  intro X₀
  unfold lawRest lawTurn lawWhile lawEnv lawBody lawScope PySem.Challenge.pw_dm0224_01
  dsimp only [List.drop]
  unfold pickMap at F
  unfold gameNews gameNewsG at N
  unfold gameChain at l1
  obtain ⟨n, rfl⟩ : ∃ n : Nat, cnt = (n : Int) := ⟨cnt.toNat, by omega⟩
  walk1
  refine dm_for (h₀ := h₀) (L := L) (m := pickMap m aHands aNums turn tt mine last 2 n tk tc) (b := n) (fun i => gameNewsG L aHands aNums aHeaps i0 i1 i2 ls tp n0 n1 v0 v1 ws a b c t0 t1 t2 e j0 j1 (x2 + (i : Int)) (c - (i : Int)) oW oT oH oM) rfl rfl rfl rfl (by omega) ?_ ?_ ?_ ?_
  · intro i p hp
    simp only [gameNewsG, List.mem_cons, List.not_mem_nil, or_false] at hp ⊢
    rcases hp with rfl | rfl | rfl | rfl | rfl | rfl | rfl | rfl | rfl | rfl | rfl | rfl <;> simp
  · intro Q' hQ
    unfold pickMap gameNewsG at hQ
    simp only [Int.natCast_zero, Int.add_zero, Int.sub_zero] at hQ
    k_steps
    exact hQ _ _ _ _ _ _ (by assumption) (by assumption) (by assumption)
  · intro i I oI tk1 tk2 h hi lt F N
    unfold gameNewsG at N lt
    unfold pickMap at F
    k_lt lt
    k_steps
    refine ⟨rfl, _, _, _, rfl, by assumption, ?_, ?_⟩
    · intro y hy
      rw [if_neg hy]
    · (rename News _ _ _ _ => NZ)
      unfold gameNewsG; dsimp only
      rw [show x2 + ((i + 1 : Nat) : Int) = x2 + (i : Int) + 1 from by omega, show c - ((i + 1 : Nat) : Int) = c - (i : Int) - 1 from by omega]
      exact NZ
  · intro h' tk1 u F N
    unfold gameNewsG at N
    unfold pickMap at F
    k_steps
    (rename Fr _ _ _ _ => FZ)
    (rename News _ _ _ _ => NZ)
    exact ⟨rfl, _, _, rfl, _, _, _, _, _, _, _, _, _, _, _, _, _, _, fr_game FZ rfl rfl rfl rfl rfl, NZ, dW, dT, by omega, by omega⟩

set_option maxHeartbeats 16000000 in
theorem mineIf {w : World} {s : Shared} {h₀ : Heap} {L fa : Nat} {cd : Value} {m mg mb : Str → Option Value} {mean : ExcName → Option Value}
    {aHands aNums aHeaps i0 i1 i2 ls tp : Nat} {most n0 n1 a b c x2 turn : Int} {v0 v1 : Value} {ws : List Value} {t0 t1 t2 tm tt : Tok} {e j0 j1 : Nat} {oW oT oH oM : Obj} {cW cT : Option Value} {last : Bool}
    (X₀ : (hd.heap_39 w.params).In h₀) (T : Top hd.view_39 (looseW hd.view_39 [Str.ofString "length_hint"]) mean mg mb h₀)
    (F : Fr h₀ L s.heap (gameMap m aHands aNums turn tt true last))
    (N : News h₀ L s.heap (gameNews L aHands aNums aHeaps i0 i1 i2 ls tp n0 n1 v0 v1 ws a b c t0 t1 t2 e j0 j1 x2 oW oT oH oM))
    (l1 : gameChain L aHands aNums aHeaps i0 i1 i2 ls tp)
    (dW : oW.data = .cell cW) (dT : oT.data = .cell cT) (dH : oH.data = .cell (some (.ref aHeaps))) (dM : oM.data = .cell (some (.int most tm)))
    (hm1 : 1 ≤ most) (hm3 : most ≤ 3) (ha : 0 ≤ a) (hb : 0 ≤ b) (hc : 0 ≤ c)
    (hz0 : (j0 : Int) + a = n0) (hz1 : (j1 : Int) + b = n1) (hG : G3 most a b c ≠ 0) :
    wpAny (model PySem.Challenge.rw_dm0224_01.row.prog w) (callerA.deeper (lawEnv L fa cd)) (exec lawIf (lawEnv L fa cd))
      (PickPost h₀ L aHands aNums aHeaps i0 i1 i2 ls tp n0 n1 v0 v1 ws oH oM most a b c t0 t1 t2 e j0 j1 x2 turn tt true last s) (fun _ _ => False) s := by
  revert X₀
  k_fill
  intro X₀
  unfold lawIf lawTurn lawWhile lawEnv lawBody lawScope PySem.Challenge.pw_dm0224_01
  dsimp only [List.drop]
  unfold gameMap at F
  unfold gameNews gameNewsG at N
  unfold gameChain at l1
  k_steps
  all_goals subst_vars
  all_goals first
    | (exfalso; exact mine_none hm1 hm3 ha hb hc hG (by with_reducible assumption) (by with_reducible assumption) (by with_reducible assumption))
    | (exfalso; exact mine_no0 hm1 hm3 ha hb hc (by with_reducible assumption))
    | (exfalso; exact mine_no1 hm1 hm3 ha hb hc (by with_reducible assumption))
    | (exfalso; exact mine_no2 hm1 hm3 ha hb hc (by with_reducible assumption))
    | ((rename Fr _ _ _ _ => FZ); (rename News _ _ _ _ => NZ); (refine ⟨rfl, _, _, _, _, _, _, _, _, _, _, _, rfl, fr_pick FZ rfl rfl rfl rfl rfl rfl rfl, fun p hp => NZ p (.tail _ (.tail _ (.tail _ hp))), by with_reducible assumption, by with_reducible assumption, ?_⟩); first
        | with_reducible exact mine_pick0 hm1 hm3 ha hb hc (by with_reducible assumption)
        | with_reducible exact mine_pick1 hm1 hm3 ha hb hc (by with_reducible assumption)
        | with_reducible exact mine_pick2 hm1 hm3 ha hb hc (by with_reducible assumption))

section
local macro_rules | `(tactic| walk_at "newTuple") => `(tactic| (k_here; k_dflt (refine' kup_newTuple ?F ?N ?_ ?z; (case F => k_asm); (case N => k_asm); (case z => kmk_size)); intro D' h' F' N' l1; (try k_sweep)))
local macro_rules | `(tactic| walk_at "call builtin:len") => `(tactic| (k_here; (with_reducible show wpAny _ _ (call (Value.builtin "len") [Value.ref _]) _ _ _); k_dflt (refine dm_len_lst (by k_asm) (by k_mem) (by omega) ?_)))
local macro_rules | `(tactic| walk_at "subscriptTail Name BinOp ref int") => `(tactic| (k_here; (with_reducible show wpAny _ _ (subscriptTail _ _ (Value.ref _) (Value.int (Int.fmod _ ((@List.length Value _ : Nat) : Int)) _)) _ _ _); k_dflt (refine' dm_mayAt ?N ?m ?t ?M ?a ?b ?_ ?s; (case M => assumption); (case N => k_asm); (case m => k_mem); (case t => (intro p hp; (repeat (first | exact hp | refine List.Mem.tail _ ?_)))); (case a => omega); (case b => omega); (case s => with_unfolding_all rfl)); intro T' kj' kt' tj' tt' hv' N'))
def valO (most a b c : Int) (j t : Int) : Prop := 1 ≤ t ∧ t ≤ most ∧ ((j = 0 ∧ t ≤ a) ∨ (j = 1 ∧ t ≤ b) ∨ (j = 2 ∧ t ≤ c))
def rrO (most a b c : Int) (j : Nat) : Nat := if j = 0 then (min most a).toNat else if j = 1 then (min most b).toNat else (min most c).toNat
set_option maxHeartbeats 16000000 in
theorem otherIf {w : World} {s : Shared} {h₀ : Heap} {L fa : Nat} {cd : Value} {m mg mb : Str → Option Value} {mean : ExcName → Option Value}
    {aHands aNums aHeaps i0 i1 i2 ls tp : Nat} {most n0 n1 a b c x2 turn : Int} {v0 v1 : Value} {ws : List Value} {ns : List Int} {t0 t1 t2 tm tt : Tok} {e j0 j1 : Nat} {oW oT oH oM : Obj} {cW cT : Option Value} {last : Bool}
    (X₀ : (hd.heap_39 w.params).In h₀) (T : Top hd.view_39 (looseW hd.view_39 [Str.ofString "length_hint"]) mean mg mb h₀)
    (F : Fr h₀ L s.heap (gameMap m aHands aNums turn tt false last))
    (N : News h₀ L s.heap (gameNews L aHands aNums aHeaps i0 i1 i2 ls tp n0 n1 v0 v1 ws a b c t0 t1 t2 e j0 j1 x2 oW oT oH oM))
    (l1 : gameChain L aHands aNums aHeaps i0 i1 i2 ls tp)
    (dW : oW.data = .cell cW) (dT : oT.data = .cell cT) (dH : oH.data = .cell (some (.ref aHeaps))) (dM : oM.data = .cell (some (.int most tm)))
    (hm1 : 1 ≤ most) (hm3 : most ≤ 3) (ha : 0 ≤ a) (hb : 0 ≤ b) (hc : 0 ≤ c) (hsum : 0 < a + b + c) (hi : IntsAre ws ns) (hns : 1 ≤ ns.length) (hns' : ns.length ≤ 64)
    (hG : G3 most a b c = 0) :
    wpAny (model PySem.Challenge.rw_dm0224_01.row.prog w) (callerA.deeper (lawEnv L fa cd)) (exec lawIf (lawEnv L fa cd))
      (PickPost h₀ L aHands aNums aHeaps i0 i1 i2 ls tp n0 n1 v0 v1 ws oH oM most a b c t0 t1 t2 e j0 j1 x2 turn tt false last s) (fun _ _ => False) s := by
  revert X₀
  k_fill
  intro X₀
  unfold lawIf lawTurn lawWhile lawEnv lawBody lawScope PySem.Challenge.pw_dm0224_01
  dsimp only [List.drop]
  unfold gameMap at F
  unfold gameNews gameNewsG at N
  unfold gameChain at l1
  k_steps
  refine dm_may (valid := valO most a b c) (rr := rrO most a b c) (by k_asm) (by k_asm) rfl rfl (by with_unfolding_all rfl) (by with_unfolding_all rfl) (by decide) rfl (by decide) rfl rfl (by decide) rfl rfl (fun _ => rfl) (fun _ _ => rfl) ?_ ?_ ?_ ?_ ?_ ?_
  · intro Q' hQ
    k_steps
    exact hQ _ _ _ _ _ _ (by assumption) (by assumption) (by assumption)
  · intro C oC m' j t tj tt' h tk tl hC hj ht F N Q' hQ
    simp only [List.cons_append, List.nil_append] at N hQ
    k_steps
    exact hQ _ _ _ (by assumption) (by assumption) (by assumption)
  · intro C oC m' j tj h tk tl hj3 hC hj F N Q' hQ
    simp only [List.cons_append, List.nil_append] at N hQ
    have hjj : j = 0 ∨ j = 1 ∨ j = 2 := by omega
    rcases hjj with rfl | rfl | rfl
    · replace hj : m' (Str.ofString "j") = some (.int 0 tj) := hj
      have er : ((rrO most a b c 0 : Nat) : Int) = if a < most then a else most := by unfold rrO; simp only [if_true]; split <;> omega
      rw [er] at hQ
      k_steps
      exact hQ _ _ _ _ _ _ (by assumption) (by assumption) (by assumption)
    · replace hj : m' (Str.ofString "j") = some (.int 1 tj) := hj
      have er : ((rrO most a b c 1 : Nat) : Int) = if b < most then b else most := by unfold rrO; simp only [Nat.reduceEqDiff, if_false, if_true]; split <;> omega
      rw [er] at hQ
      k_steps
      exact hQ _ _ _ _ _ _ (by assumption) (by assumption) (by assumption)
    · replace hj : m' (Str.ofString "j") = some (.int 2 tj) := hj
      have er : ((rrO most a b c 2 : Nat) : Int) = if c < most then c else most := by unfold rrO; simp only [Nat.reduceEqDiff, if_false]; split <;> omega
      rw [er] at hQ
      k_steps
      exact hQ _ _ _ _ _ _ (by assumption) (by assumption) (by assumption)
  · intro j
    unfold rrO
    split
    · omega
    · split <;> omega
  · intro j t hj h1 h2
    have hjj : j = 0 ∨ j = 1 ∨ j = 2 := by omega
    unfold valO
    rcases hjj with rfl | rfl | rfl
    · unfold rrO at h2; simp only [if_true] at h2
      exact ⟨by omega, by omega, .inl ⟨rfl, by omega⟩⟩
    · unfold rrO at h2; simp only [Nat.reduceEqDiff, if_false, if_true] at h2
      exact ⟨by omega, by omega, .inr (.inl ⟨rfl, by omega⟩)⟩
    · unfold rrO at h2; simp only [Nat.reduceEqDiff, if_false] at h2
      exact ⟨by omega, by omega, .inr (.inr ⟨rfl, by omega⟩)⟩
  · intro D vs tups h' tk F N hM hl
    have hpos : 1 ≤ vs.length ∧ vs.length ≤ 9 := by
      rw [hl]
      simp only [tot, rrO, Nat.reduceEqDiff, if_false, if_true]
      omega
    clear hl
    simp only [List.cons_append, List.nil_append] at N
    k_steps
    (rename Fr _ _ _ _ => FZ)
    (rename News _ _ _ _ => NZ)
    (rename valO _ _ _ _ _ _ => hv)
    exact ⟨rfl, _, _, _, _, _, _, _, _, _, _, _, rfl, fr_pick FZ rfl rfl rfl rfl rfl rfl rfl, fun p hp => NZ p (.tail _ (.tail _ (List.mem_append_left tups hp))), dW, dT, other_pick hm1 hm3 ha hb hc hG hv.1 hv.2.1 hv.2.2⟩
end

theorem lawTurn_eq : lawTurn = lawIf :: lawRest := by with_unfolding_all rfl

def TurnRes (h₀ : Heap) (L aHands aNums aHeaps i0 i1 i2 ls tp : Nat) (n0 n1 : Int) (v0 v1 : Value) (ws : List Value) (oH oM : Obj) (most a b c : Int) (mine : Bool) (s : Shared) (fl : Flow) (s' : Shared) : Prop :=
  fl = .next ∧ ∃ (a' b' c' : Int) (h' : Heap) (tk : Nat), s' = { s with heap := h', toks := tk } ∧ Game h₀ L aHands aNums aHeaps i0 i1 i2 ls tp n0 n1 v0 v1 ws oH oM a' b' c' (!mine) mine h' ∧
    0 ≤ a' ∧ 0 ≤ b' ∧ 0 ≤ c' ∧ a' + b' + c' < a + b + c ∧ Good mine (G3 most a' b' c')

theorem turnAll {w : World} {s : Shared} {h₀ : Heap} {L fa : Nat} {cd : Value} {mg mb : Str → Option Value} {mean : ExcName → Option Value}
    {aHands aNums aHeaps i0 i1 i2 ls tp : Nat} {most n0 n1 a b c : Int} {v0 v1 : Value} {ws : List Value} {ns : List Int} {tm : Tok} {oH oM : Obj} {mine last : Bool}
    (X₀ : (hd.heap_39 w.params).In h₀) (T : Top hd.view_39 (looseW hd.view_39 [Str.ofString "length_hint"]) mean mg mb h₀)
    (g : Game h₀ L aHands aNums aHeaps i0 i1 i2 ls tp n0 n1 v0 v1 ws oH oM a b c mine last s.heap)
    (l1 : gameChain L aHands aNums aHeaps i0 i1 i2 ls tp) (dH : oH.data = .cell (some (.ref aHeaps))) (dM : oM.data = .cell (some (.int most tm)))
    (hm1 : 1 ≤ most) (hm3 : most ≤ 3) (ha : 0 ≤ a) (hb : 0 ≤ b) (hc : 0 ≤ c) (hsum : 0 < a + b + c) (hi : IntsAre ws ns) (hns : 1 ≤ ns.length) (hns' : ns.length ≤ 64)
    (hG1 : mine = true → G3 most a b c ≠ 0) (hG0 : mine = false → G3 most a b c = 0) :
    wpAny (model PySem.Challenge.rw_dm0224_01.row.prog w) (callerA.deeper (lawEnv L fa cd)) (execs lawTurn (lawEnv L fa cd))
      (TurnRes h₀ L aHands aNums aHeaps i0 i1 i2 ls tp n0 n1 v0 v1 ws oH oM most a b c mine s) (fun _ _ => False) s := by
  obtain ⟨m, t0, t1, t2, tt, e, j0, j1, x2, turn, oW, oT, cW, cT, F, N, dW, dT, hz0, hz1⟩ := g
  rw [lawTurn_eq]
  have pick : wpAny (model PySem.Challenge.rw_dm0224_01.row.prog w) (callerA.deeper (lawEnv L fa cd)) (exec lawIf (lawEnv L fa cd))
      (PickPost h₀ L aHands aNums aHeaps i0 i1 i2 ls tp n0 n1 v0 v1 ws oH oM most a b c t0 t1 t2 e j0 j1 x2 turn tt mine last s) (fun _ _ => False) s := by
    cases mine with
    | true => exact mineIf X₀ T F N l1 dW dT dH dM hm1 hm3 ha hb hc hz0 hz1 (hG1 rfl)
    | false => exact otherIf X₀ T F N l1 dW dT dH dM hm1 hm3 ha hb hc hsum hi hns hns' (hG0 rfl)
  refine wpAny_execs_cons (wpAny_mono pick (fun fl s₁ hp => ?_) fun _ _ q => q)
  obtain ⟨rfl, h', tok, m', k, cnt, tk, tc, oW', oT', cW', cT', rfl, F', N', dW', dT', hc1, hc3, hpick⟩ := hp
  rcases hpick with ⟨rfl, hle, hg⟩ | ⟨rfl, hle, hg⟩ | ⟨rfl, hle, hg⟩
  · refine wpAny_mono (tail0 (s := { s with heap := h', toks := tok }) X₀ T F' N' l1 dW' dT' dH dM ha hb hc hc1 hc3 hle hz0 hz1) (fun fl s₂ ht => ?_) fun _ _ q => q
    obtain ⟨rfl, h₂, tk₂, rfl, gm⟩ := ht
    exact ⟨rfl, _, _, _, _, _, rfl, gm, by omega, by omega, by omega, by omega, hg⟩
  · refine wpAny_mono (tail1 (s := { s with heap := h', toks := tok }) X₀ T F' N' l1 dW' dT' dH dM ha hb hc hc1 hc3 hle hz0 hz1) (fun fl s₂ ht => ?_) fun _ _ q => q
    obtain ⟨rfl, h₂, tk₂, rfl, gm⟩ := ht
    exact ⟨rfl, _, _, _, _, _, rfl, gm, by omega, by omega, by omega, by omega, hg⟩
  · refine wpAny_mono (tail2 (s := { s with heap := h', toks := tok }) X₀ T F' N' l1 dW' dT' dH dM ha hb hc hc1 hc3 hle hz0 hz1) (fun fl s₂ ht => ?_) fun _ _ q => q
    obtain ⟨rfl, h₂, tk₂, rfl, gm⟩ := ht
    exact ⟨rfl, _, _, _, _, _, rfl, gm, by omega, by omega, by omega, by omega, hg⟩

def TestPost (P : Heap → Prop) (bb : Bool) (s : Shared) (x : Bool) (s' : Shared) : Prop := x = bb ∧ ∃ (h' : Heap) (tk : Nat), s' = { s with heap := h', toks := tk } ∧ P h'
set_option maxHeartbeats 8000000 in
theorem testAll {w : World} {s : Shared} {h₀ : Heap} {L fa : Nat} {cd : Value} {mg mb : Str → Option Value} {mean : ExcName → Option Value}
    {aHands aNums aHeaps i0 i1 i2 ls tp : Nat} {n0 n1 a b c : Int} {v0 v1 : Value} {ws : List Value} {oH oM : Obj} {mine last : Bool}
    (X₀ : (hd.heap_39 w.params).In h₀) (T : Top hd.view_39 (looseW hd.view_39 [Str.ofString "length_hint"]) mean mg mb h₀)
    (g : Game h₀ L aHands aNums aHeaps i0 i1 i2 ls tp n0 n1 v0 v1 ws oH oM a b c mine last s.heap)
    (l1 : gameChain L aHands aNums aHeaps i0 i1 i2 ls tp) (dH : oH.data = .cell (some (.ref aHeaps))) :
    wpAny (model PySem.Challenge.rw_dm0224_01.row.prog w) (callerA.deeper (lawEnv L fa cd)) (PySem.isTrue lawTest (lawEnv L fa cd) (eval lawTest (lawEnv L fa cd)))
      (TestPost (Game h₀ L aHands aNums aHeaps i0 i1 i2 ls tp n0 n1 v0 v1 ws oH oM a b c mine last) (decide (0 < a + b + c)) s) (fun _ _ => False) s := by
  obtain ⟨m, t0, t1, t2, tt, e, j0, j1, x2, turn, oW, oT, cW, cT, F, N, dW, dT, hz0, hz1⟩ := g
  revert X₀
  k_fill
  intro X₀
  unfold lawTest lawWhile lawEnv lawBody lawScope PySem.Challenge.pw_dm0224_01
  dsimp only [List.drop]
  unfold gameMap at F
  unfold gameNews gameNewsG at N
  unfold gameChain at l1
  k_steps
  (rename Fr _ _ _ _ => FZ)
  (rename News _ _ _ _ => NZ)
  refine ⟨by simp only [Int.add_zero, Int.add_assoc], _, _, rfl, m, t0, t1, t2, tt, e, j0, j1, x2, turn, oW, oT, cW, cT, FZ, NZ, dW, dT, hz0, hz1⟩

def lawWPos : Pos := match lawWhileStmt with
  | .While _ _ _ p => p
  | _ => ⟨0, 0, 0, 0⟩
theorem lawWhileStmt_eq : lawWhileStmt = .While lawTest lawTurn [] lawWPos := by with_unfolding_all rfl

theorem loopAll {w : World} {s : Shared} {h₀ : Heap} {L fa : Nat} {cd : Value} {mg mb : Str → Option Value} {mean : ExcName → Option Value}
    {aHands aNums aHeaps i0 i1 i2 ls tp : Nat} {most n0 n1 a b c : Int} {v0 v1 : Value} {ws : List Value} {ns : List Int} {tm : Tok} {oH oM : Obj} {mine last : Bool} {Q : Flow → Shared → Prop}
    (X₀ : (hd.heap_39 w.params).In h₀) (T : Top hd.view_39 (looseW hd.view_39 [Str.ofString "length_hint"]) mean mg mb h₀)
    (g : Game h₀ L aHands aNums aHeaps i0 i1 i2 ls tp n0 n1 v0 v1 ws oH oM a b c mine last s.heap)
    (l1 : gameChain L aHands aNums aHeaps i0 i1 i2 ls tp) (dH : oH.data = .cell (some (.ref aHeaps))) (dM : oM.data = .cell (some (.int most tm)))
    (hm1 : 1 ≤ most) (hm3 : most ≤ 3) (ha : 0 ≤ a) (hb : 0 ≤ b) (hc : 0 ≤ c) (hsum : 0 < a + b + c) (hi : IntsAre ws ns) (hns : 1 ≤ ns.length) (hns' : ns.length ≤ 64)
    (hG1 : mine = true → G3 most a b c ≠ 0) (hG0 : mine = false → G3 most a b c = 0)
    (done : ∀ (h' : Heap) (tk : Nat) (mine : Bool), Game h₀ L aHands aNums aHeaps i0 i1 i2 ls tp n0 n1 v0 v1 ws oH oM 0 0 0 mine true h' → Q .next { s with heap := h', toks := tk }) :
    wpAny (model PySem.Challenge.rw_dm0224_01.row.prog w) (callerA.deeper (lawEnv L fa cd)) (exec lawWhileStmt (lawEnv L fa cd)) Q (fun _ _ => False) s := by
  rw [lawWhileStmt_eq]
  refine wpAny_While (codeAny_whileLoop (fun n s' => ∃ (a b c : Int) (mine last : Bool) (h' : Heap) (tk : Nat), s' = { s with heap := h', toks := tk } ∧ Game h₀ L aHands aNums aHeaps i0 i1 i2 ls tp n0 n1 v0 v1 ws oH oM a b c mine last h' ∧
    0 ≤ a ∧ 0 ≤ b ∧ 0 ≤ c ∧ (mine = true → G3 most a b c ≠ 0) ∧ (mine = false → G3 most a b c = 0) ∧ (a + b + c = 0 → mine = false → last = true) ∧ n = (a + b + c).toNat) ?_ (a + b + c).toNat
    ⟨a, b, c, mine, last, s.heap, s.toks, rfl, g, ha, hb, hc, hG1, hG0, fun h => by omega, rfl⟩)
  rintro n s' ⟨a, b, c, mine, last, h', tk, rfl, g, ha, hb, hc, hG1, hG0, hlast, rfl⟩
  refine wpAny_mono (testAll (s := { s with heap := h', toks := tk }) X₀ T g l1 dH) (fun x s₂ hx => ?_) fun _ _ q => q.elim
  obtain ⟨rfl, h₂, tk₂, rfl, g₂⟩ := hx
  by_cases hpos : 0 < a + b + c
  · simp only [hpos, decide_true, if_true]
    refine wpAny_mono (turnAll (s := { s with heap := h₂, toks := tk₂ }) X₀ T g₂ l1 dH dM hm1 hm3 ha hb hc hpos hi hns hns' hG1 hG0) (fun f s₃ ht => ?_) fun _ _ q => q.elim
    obtain ⟨rfl, a', b', c', h₃, tk₃, rfl, g₃, ha', hb', hc', hlt, hgood⟩ := ht
    refine ⟨(a' + b' + c').toNat, by omega, a', b', c', !mine, mine, h₃, tk₃, rfl, g₃, ha', hb', hc', ?_, ?_, ?_, rfl⟩
    · intro hm
      cases mine with
      | true => cases hm
      | false => exact hgood
    · intro hm
      cases mine with
      | true => exact hgood
      | false => cases hm
    · intro _ hm
      cases mine with
      | true => rfl
      | false => cases hm
  · simp only [hpos, decide_false, Bool.false_eq_true, if_false]
    refine wpAny_execs_nil ?_
    have e1 : a = 0 := by omega
    have e2 : b = 0 := by omega
    have e3 : c = 0 := by omega
    subst e1 e2 e3
    have hm : mine = false := by
      cases mine with
      | false => rfl
      | true =>
        exfalso
        refine hG1 rfl ?_
        show xr (xr ((0 : Int).fmod (most + 1)) ((0 : Int).fmod (most + 1))) ((0 : Int).fmod (most + 1)) = 0
        rw [Int.zero_fmod]; exact xor_zero
    have hl := hlast (by omega) hm
    subst hl
    exact done h₂ tk₂ mine g₂

section
local macro_rules | `(tactic| walk_at "eval ListComp") => `(tactic| (k_here; lcg_look; k_dflt (refine LCg.ListComp_U (F₀ := by k_asm) (by rfl) (by decide) (by rfl) (by decide) (by rfl) ?_); k_dflt lcg_toSrc))
def RetPost (h₀ : Heap) (L : Nat) (s : Shared) (fl : Flow) (s' : Shared) : Prop := fl = .ret (.bool true) ∧ ∃ (h' : Heap) (tk : Nat) (m : Str → Option Value), s' = { s with heap := h', toks := tk } ∧ Fr h₀ L h' m
set_option maxHeartbeats 8000000 in
theorem retAll {w : World} {s : Shared} {h₀ : Heap} {L fa : Nat} {cd : Value} {mg mb : Str → Option Value} {mean : ExcName → Option Value}
    {aHands aNums aHeaps i0 i1 i2 ls tp : Nat} {n0 n1 : Int} {v0 v1 : Value} {ws : List Value} {oH oM : Obj} {mine : Bool}
    (X₀ : (hd.heap_39 w.params).In h₀) (T : Top hd.view_39 (looseW hd.view_39 [Str.ofString "length_hint"]) mean mg mb h₀)
    (g : Game h₀ L aHands aNums aHeaps i0 i1 i2 ls tp n0 n1 v0 v1 ws oH oM 0 0 0 mine true s.heap)
    (l1 : gameChain L aHands aNums aHeaps i0 i1 i2 ls tp) :
    wpAny (model PySem.Challenge.rw_dm0224_01.row.prog w) (callerA.deeper (lawEnv L fa cd)) (exec lawReturn (lawEnv L fa cd)) (RetPost h₀ L s) (fun _ _ => False) s := by
  obtain ⟨m, t0, t1, t2, tt, e, j0, j1, x2, turn, oW, oT, cW, cT, F, N, dW, dT, hz0, hz1⟩ := g
  revert X₀
  k_fill
  intro X₀
  unfold lawReturn lawWhile lawEnv lawBody lawScope PySem.Challenge.pw_dm0224_01
  dsimp only [List.drop]
  unfold gameMap at F
  unfold gameNews gameNewsG at N
  unfold gameChain at l1
  k_steps
  exact ⟨rfl, _, _, _, rfl, by assumption⟩
end

set_option maxHeartbeats 8000000 in
theorem initAll {w : World} {s : Shared} {h₀ : Heap} {L fa : Nat} {cd : Value} {m mg mb : Str → Option Value} {mean : ExcName → Option Value} {Q : Flow → Shared → Prop} {rest : List Stmt}
    {aHands aNums aHeaps i0 i1 i2 ls tp : Nat} {most n0 n1 n2 : Int} {v0 v1 : Value} {ws : List Value} {t0 t1 t2 tm : Tok} {oW oT oH oM : Obj} {cW cT : Option Value}
    (X₀ : (hd.heap_39 w.params).In h₀) (T : Top hd.view_39 (looseW hd.view_39 [Str.ofString "length_hint"]) mean mg mb h₀)
    (F : Fr h₀ L s.heap (fun y => if y = Str.ofString "hands" then some (.ref aHands) else if y = Str.ofString "numbers" then some (.ref aNums) else m y))
    (N : News h₀ L s.heap (gameNews L aHands aNums aHeaps i0 i1 i2 ls tp n0 n1 v0 v1 ws n0 n1 n2 t0 t1 t2 0 0 0 0 oW oT oH oM))
    (l1 : gameChain L aHands aNums aHeaps i0 i1 i2 ls tp)
    (dW : oW.data = .cell cW) (dT : oT.data = .cell cT) (dH : oH.data = .cell (some (.ref aHeaps))) (dM : oM.data = .cell (some (.int most tm)))
    (hm1 : 1 ≤ most) (hm3 : most ≤ 3) (hn0 : 1 ≤ n0) (hn1 : 0 ≤ n1) (hn2 : 0 ≤ n2)
    (hrest : ∀ (h' : Heap) (tk : Nat), Game h₀ L aHands aNums aHeaps i0 i1 i2 ls tp n0 n1 v0 v1 ws oH oM n0 n1 n2 (G3 most n0 n1 n2 != 0) false h' →
      wpAny (model PySem.Challenge.rw_dm0224_01.row.prog w) (callerA.deeper (lawEnv L fa cd)) (execs rest (lawEnv L fa cd)) Q (fun _ _ => False) { s with heap := h', toks := tk }) :
    wpAny (model PySem.Challenge.rw_dm0224_01.row.prog w) (callerA.deeper (lawEnv L fa cd)) (execs (lawInit ++ rest) (lawEnv L fa cd)) Q (fun _ _ => False) s := by
  have hz0 : ((0 : Nat) : Int) + n0 = n0 := by omega
  have hz1 : ((0 : Nat) : Int) + n1 = n1 := by omega
  revert X₀
  k_fill
  intro X₀
  unfold lawInit lawTail lawEnv lawBody lawScope PySem.Challenge.pw_dm0224_01 at *
  dsimp only [List.drop, List.take, List.cons_append, List.nil_append] at *
  unfold gameNews gameNewsG at N
  unfold gameChain at l1
  k_steps
  subst_vars
  (rename Fr _ _ _ _ => FZ)
  (rename News _ _ _ _ => NZ)
  exact hrest _ _ ⟨_, _, _, _, _, _, _, _, _, _, _, _, _, _, fr_game FZ rfl rfl rfl rfl rfl, fun p hp => NZ p (.tail _ hp), dW, by with_reducible assumption, hz0, hz1⟩

theorem lawTail_eq : lawTail = lawInit ++ [lawWhileStmt, lawReturn] := by with_unfolding_all rfl

theorem partA {w : World} {s : Shared} {h₀ : Heap} {L fa : Nat} {cd : Value} {m mg mb : Str → Option Value} {mean : ExcName → Option Value}
    {aHands aNums aHeaps i0 i1 i2 ls tp : Nat} {most n0 n1 n2 : Int} {v0 v1 : Value} {ws : List Value} {ns : List Int} {t0 t1 t2 tm : Tok} {oW oT oH oM : Obj} {cW cT : Option Value}
    (X₀ : (hd.heap_39 w.params).In h₀) (T : Top hd.view_39 (looseW hd.view_39 [Str.ofString "length_hint"]) mean mg mb h₀)
    (F : Fr h₀ L s.heap (fun y => if y = Str.ofString "hands" then some (.ref aHands) else if y = Str.ofString "numbers" then some (.ref aNums) else m y))
    (N : News h₀ L s.heap (gameNews L aHands aNums aHeaps i0 i1 i2 ls tp n0 n1 v0 v1 ws n0 n1 n2 t0 t1 t2 0 0 0 0 oW oT oH oM))
    (l1 : gameChain L aHands aNums aHeaps i0 i1 i2 ls tp)
    (dW : oW.data = .cell cW) (dT : oT.data = .cell cT) (dH : oH.data = .cell (some (.ref aHeaps))) (dM : oM.data = .cell (some (.int most tm)))
    (hm1 : 1 ≤ most) (hm3 : most ≤ 3) (hn0 : 1 ≤ n0) (hn1 : 0 ≤ n1) (hn2 : 0 ≤ n2) (hi : IntsAre ws ns) (hns : 1 ≤ ns.length) (hns' : ns.length ≤ 64) :
    wpAny (model PySem.Challenge.rw_dm0224_01.row.prog w) (callerA.deeper (lawEnv L fa cd)) (execs lawTail (lawEnv L fa cd)) (RetPost h₀ L s) (fun _ _ => False) s := by
  rw [lawTail_eq]
  refine initAll X₀ T F N l1 dW dT dH dM hm1 hm3 hn0 hn1 hn2 fun h' tk g => ?_
  refine wpAny_execs_cons (loopAll (s := { s with heap := h', toks := tk }) X₀ T g l1 dH dM hm1 hm3 (by omega) hn1 hn2 (by omega) hi hns hns' (fun hm => by simpa using hm) (fun hm => by simpa using hm) fun h₂ tk₂ mine g₂ => ?_)
  refine wpAny_execs_cons (wpAny_mono (retAll (s := { s with heap := h₂, toks := tk₂ }) X₀ T g₂ l1) (fun fl s₃ hr => ?_) fun _ _ q => q)
  obtain ⟨rfl, h₃, tk₃, m₃, rfl, F₃⟩ := hr
  exact ⟨rfl, h₃, tk₃, m₃, rfl, F₃⟩

local macro_rules | `(tactic| walk_at "execs cons") => `(tactic| (k_here; (with_reducible show wpAny _ _ (execs (Stmt.Assign [Expr.Name (Str.ofString "told") _] _ _ :: _) _) _ _ _); k_dflt (refine' wpAny_mono (partA ?X ?T ?F ?N ?l ?dW ?dT ?dH ?dM ?a1 ?a2 ?a3 ?a4 ?a5 ?i ?n1 ?n2) ?_ (fun _ _ q => q.elim); (case X => k_asm); (case T => k_asm); (case F => k_asm); (case dH => assumption); (case dM => assumption); (case N => exact news_sub (by k_asm) (by lcg_sub)); (case l => (unfold gameChain; (repeat' apply And.intro) <;> omega)); (case dW => assumption); (case dT => assumption); (case a1 => omega); (case a2 => omega); (case a3 => omega); (case a4 => omega); (case a5 => omega); (case i => assumption); (case n1 => simp); (case n2 => (simp only [List.length_append, List.length_cons, List.length_nil]; omega)); intro fl' s' hr'; obtain ⟨e1', h', tk', m', e2', F'⟩ := hr'; subst e1'; subst e2'; (try dsimp only))))
set_option maxHeartbeats 8000000 in
theorem mainWalk : PySem.Challenge.rw_dm0224_01.Holds := hd (by (w_strict (k_go0; (all_goals try k_fold); k_steps)))
end Mine

theorem PySem.Challenge.cw_dm0224_01_holds : PySem.Challenge.rw_dm0224_01.Holds := by
  exact Mine.mainWalk
