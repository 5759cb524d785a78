/- The law on drawn regions by kinds, where every value is known: operations that yield a known value, new variables, stores of known values into them; whatever the order. -/
import Derived.Test.YtpjbhbbhkhfiaaaCL
set_option linter.unusedSimpArgs false
set_option linter.unusedVariables false
namespace Go.Proofs.Ytpjbhbbhkhfiaaa.QTail
open Go.RowKit
section
variable {P : Program}
def isVal (nw : List (Nat × Nat × Value)) (i : Nat) : Bool := nw.all fun x => decide (x.1 ≠ i) && decide (x.2.1 ≠ i)
def kindOf (nw : List (Nat × Nat × Value)) (i : Nat) : Kind :=
  match nw.find? (fun x => x.1 == i) with
  | some x => .new x.2.1
  | none => match nw.find? (fun x => x.2.1 == i) with
    | some x => .put x.1 (fun _ => x.2.2)
    | none => .val
def nwB (l : List Oper) (nw : List (Nat × Nat × Value)) : Bool :=
  decide ((nw.map (·.1) ++ nw.map (·.2.1)).Nodup) && nw.all fun x => decide (x.1 < l.length) && (match l[x.2.1]? with | some o => o.after.any (fun e => Region.binds .any e && (e.on == x.1)) && o.dst.isNone | none => false)
def DepsOK (V : Nat → Value) (nw : List (Nat × Nat × Value)) (o : Oper) (vs : Nat → Value) : Prop := ∀ e ∈ o.after, Region.binds .any e = true → isVal nw e.on = true → vs e.on = V e.on
/-- what is asked of each operation -/
def Each (P : Program) (l0 : List Oper) (V : Nat → Value) (nw : List (Nat × Nat × Value)) (a0 : Act) (w : World) : Nat → List Oper → Prop
  | _, [] => True
  | k, o :: r => (match kindOf nw k with
    | .val => ∀ vs w', Below w.heap.size w w' → DepsOK V nw o vs → wpList P l0.toArray (fun e a' w'' => e = .normal ∧ a' = (putA l0 0 vs a0).put o.dst (V k) ∧ Below w'.heap.size w' w'') [o] (putA l0 0 vs a0) w'
    | .new _ => ∀ vs w', wpList P l0.toArray (fun e a' w'' => e = .normal ∧ a' = (putA l0 0 vs a0).put o.dst (ptr w'.heap.size) ∧ ∃ c t, w'' = w'.alloc (.cells #[c] t)) [o] (putA l0 0 vs a0) w'
    | .put t g => ∀ vs w' b x, vs t = ptr b → DepsOK V nw o vs → w'.cell? ⟨b, 0, none⟩ = some x → w'.frozen? ⟨b, 0, none⟩ = false →
      wpList P l0.toArray (fun e a' w'' => e = .normal ∧ a' = (putA l0 0 vs a0).put o.dst undef ∧ w'' = w'.setCell ⟨b, 0, none⟩ (g vs)) [o] (putA l0 0 vs a0) w') ∧ Each P l0 V nw a0 w (k + 1) r
theorem Each.get {l0 : List Oper} {V : Nat → Value} {nw : List (Nat × Nat × Value)} {a0 : Act} {w : World} : ∀ (l : List Oper) (k i : Nat) (o : Oper), Each P l0 V nw a0 w k l → l[i]? = some o →
    (match kindOf nw (k + i) with
    | .val => ∀ vs w', Below w.heap.size w w' → DepsOK V nw o vs → wpList P l0.toArray (fun e a' w'' => e = .normal ∧ a' = (putA l0 0 vs a0).put o.dst (V (k + i)) ∧ Below w'.heap.size w' w'') [o] (putA l0 0 vs a0) w'
    | .new _ => ∀ vs w', wpList P l0.toArray (fun e a' w'' => e = .normal ∧ a' = (putA l0 0 vs a0).put o.dst (ptr w'.heap.size) ∧ ∃ c t, w'' = w'.alloc (.cells #[c] t)) [o] (putA l0 0 vs a0) w'
    | .put t g => ∀ vs w' b x, vs t = ptr b → DepsOK V nw o vs → w'.cell? ⟨b, 0, none⟩ = some x → w'.frozen? ⟨b, 0, none⟩ = false →
      wpList P l0.toArray (fun e a' w'' => e = .normal ∧ a' = (putA l0 0 vs a0).put o.dst undef ∧ w'' = w'.setCell ⟨b, 0, none⟩ (g vs)) [o] (putA l0 0 vs a0) w')
  | [], _, i, _, _, h => by simp at h
  | o' :: r, k, 0, o, hE, h => by
    simp only [List.getElem?_cons_zero, Option.some.injEq] at h
    subst h
    exact hE.1
  | o' :: r, k, i + 1, o, hE, h => by
    have := Each.get r (k + 1) i o hE.2 (by simpa using h)
    rw [show k + (i + 1) = k + 1 + i by omega]
    exact this
theorem kind_val {nw : List (Nat × Nat × Value)} {i : Nat} : kindOf nw i = .val ↔ isVal nw i = true := by
  unfold kindOf isVal
  rw [List.all_eq_true]
  constructor
  · intro h x hx
    split at h
    · cases h
    · rename_i h1
      split at h
      · cases h
      · rename_i h2
        have a1 := List.find?_eq_none.1 h1 x hx
        have a2 := List.find?_eq_none.1 h2 x hx
        simp at a1 a2
        simp [a1, a2]
  · intro h
    have h1 : nw.find? (fun x => x.1 == i) = none := List.find?_eq_none.2 fun x hx => by have := h x hx; simp at this ⊢; exact this.1
    have h2 : nw.find? (fun x => x.2.1 == i) = none := List.find?_eq_none.2 fun x hx => by have := h x hx; simp at this ⊢; exact this.2
    rw [h1, h2]
theorem kind_new {nw : List (Nat × Nat × Value)} {i k : Nat} (h : kindOf nw i = .new k) : ∃ c, (i, k, c) ∈ nw := by
  unfold kindOf at h
  split at h
  · rename_i x hx
    cases h
    have h1 := List.find?_some hx
    have h2 := List.mem_of_find?_eq_some hx
    simp at h1
    obtain ⟨a, b, c⟩ := x
    simp only at h1
    subst h1
    exact ⟨c, h2⟩
  · split at h <;> cases h
theorem nodup_fst {nw : List (Nat × Nat × Value)} (h : (nw.map (·.1) ++ nw.map (·.2.1)).Nodup) {x y : Nat × Nat × Value} (hx : x ∈ nw) (hy : y ∈ nw) : (x.1 = y.1 → x = y) ∧ (x.2.1 = y.2.1 → x = y) ∧ x.1 ≠ y.2.1 := by
  have h1 := (List.nodup_append.1 h).1
  have h2 := (List.nodup_append.1 h).2.1
  have h3 := (List.nodup_append.1 h).2.2
  obtain ⟨i, hi, rfl⟩ := List.getElem_of_mem hx
  obtain ⟨j, hj, rfl⟩ := List.getElem_of_mem hy
  refine ⟨fun e => ?_, fun e => ?_, h3 _ (List.mem_map_of_mem (List.getElem_mem hi)) _ (List.mem_map_of_mem (List.getElem_mem hj))⟩
  · have : i = j := (List.getElem_inj (h₀ := by simpa using hi) (h₁ := by simpa using hj) h1).1 (by simpa using e)
    subst this; rfl
  · have : i = j := (List.getElem_inj (h₀ := by simpa using hi) (h₁ := by simpa using hj) h2).1 (by simpa using e)
    subst this; rfl
theorem kind_of_new {nw : List (Nat × Nat × Value)} (h : (nw.map (·.1) ++ nw.map (·.2.1)).Nodup) {t k : Nat} {c : Value} (hx : (t, k, c) ∈ nw) : kindOf nw t = .new k ∧ kindOf nw k = .put t (fun _ => c) := by
  have e1 : nw.find? (fun x => x.1 == t) = some (t, k, c) := by
    cases hf : nw.find? (fun x => x.1 == t) with
    | none => have := List.find?_eq_none.1 hf _ hx; simp at this
    | some y =>
      have h1 := List.find?_some hf
      have h2 := List.mem_of_find?_eq_some hf
      simp at h1
      rw [(nodup_fst h h2 hx).1 h1]
  have e2 : nw.find? (fun x => x.1 == k) = none := List.find?_eq_none.2 fun y hy => by
    have := (nodup_fst h hy hx).2.2
    simpa using this
  have e3 : nw.find? (fun x => x.2.1 == k) = some (t, k, c) := by
    cases hf : nw.find? (fun x => x.2.1 == k) with
    | none => have := List.find?_eq_none.1 hf _ hx; simp at this
    | some y =>
      have h1 := List.find?_some hf
      have h2 := List.mem_of_find?_eq_some hf
      simp at h1
      rw [(nodup_fst h h2 hx).2.1 h1]
  constructor
  · unfold kindOf; rw [e1]
  · unfold kindOf; rw [e2, e3]
theorem kind_put {nw : List (Nat × Nat × Value)} {k t : Nat} {g : (Nat → Value) → Value} (h : kindOf nw k = .put t g) : ∃ c, (t, k, c) ∈ nw ∧ g = fun _ => c := by
  unfold kindOf at h
  split at h
  · cases h
  · split at h
    · rename_i x hx
      cases h
      have h1 := List.find?_some hx
      have h2 := List.mem_of_find?_eq_some hx
      simp at h1
      obtain ⟨a, b, c⟩ := x
      simp only at h1
      subst h1
      exact ⟨c, h2, rfl⟩
    · cases h
/-- the values at the end: b gives the new variables' blocks -/
def fv (V : Nat → Value) (nw : List (Nat × Nat × Value)) (b : Nat → Nat) (i : Nat) : Value := if isVal nw i = true then V i else ptr (b i)
theorem putA_congr' : ∀ (hs : List Oper) (k : Nat) (vs vs' : Nat → Value) (a : Act), (∀ i o, hs[i]? = some o → o.dst.isSome = true → vs (k + i) = vs' (k + i)) → putA hs k vs a = putA hs k vs' a
  | [], _, _, _, _, _ => rfl
  | o :: r, k, vs, vs', a, h => by
    unfold putA
    have e : a.put o.dst (vs k) = a.put o.dst (vs' k) := by
      cases hd : o.dst with
      | none => rfl
      | some d => exact congrArg (a.put (some d)) (h 0 o rfl (by rw [hd]; rfl))
    rw [e]
    exact putA_congr' r (k + 1) vs vs' _ (fun i o ho hd => by
      have := h (i + 1) o (by simpa using ho) hd
      rwa [show k + (i + 1) = k + 1 + i by omega] at this)
theorem wp_region_fun {id : Nat} {Q : Exit → Act → World → Prop} {a0 : Act} {w : World} {l : List Oper} (V : Nat → Value) (nw : List (Nat × Nat × Value)) (hm : P.follows .mixedOrders = true) (hl : okB l = true) (hn : nwB l nw = true)
    (hE : Each P l V nw a0 w 0 l)
    (hend : ∀ (b : Nat → Nat) (w' : World), Below w.heap.size w w' → (∀ x ∈ nw, w.heap.size ≤ b x.1 ∧ w'.frozen? ⟨b x.1, 0, none⟩ = false ∧ w'.cell? ⟨b x.1, 0, none⟩ = some x.2.2) → (∀ x ∈ nw, ∀ y ∈ nw, x.1 ≠ y.1 → b x.1 ≠ b y.1) → Q .normal (putA l 0 (fv V nw b) a0) w') :
    (Code.region id l.toArray true).wp P Q a0 w := by
  unfold nwB at hn
  simp only [Bool.and_eq_true, decide_eq_true_eq, List.all_eq_true] at hn
  obtain ⟨hnd, hna⟩ := hn
  refine wp_region_spec (kindOf nw) (fun i vs => vs i = V i) hm hl ?_ ?_ ?_ ?_ ?_ ?_ ?_
  · intro k t g h
    obtain ⟨c, hx, rfl⟩ := kind_put h
    refine ⟨(kind_of_new hnd hx).1, fun o ho => ?_⟩
    have := (hna _ hx).2
    simp only [ho, Bool.and_eq_true] at this
    obtain ⟨e, he, h1⟩ := Array.any_eq_true'.1 this.1
    simp only [Bool.and_eq_true, beq_iff_eq] at h1
    exact ⟨e, he, h1.1, h1.2⟩
  · intro i o vs vs' _ _ h _ hv
    rw [← h]; exact hv
  · intro k t g o vs vs' h _ _
    obtain ⟨c, hx, rfl⟩ := kind_put h
    rfl
  · intro i o ho hk vs w' hB hd
    have := Each.get l 0 i o hE ho
    rw [Nat.zero_add, hk] at this
    have key := this vs w' hB (fun e he hb hv => hd e he hb (kind_val.2 hv))
    refine wpList_cons_mono (fun e a' w'' h => ?_) key
    obtain ⟨h1, h2, h3⟩ := h
    exact ⟨h1, V i, h2, by simp [upd], h3⟩
  · intro i o k ho hk vs w'
    have := Each.get l 0 i o hE ho
    rw [Nat.zero_add, hk] at this
    exact this vs w'
  · intro k o t g ho hk vs w' b x h1 hd h2 h3
    have := Each.get l 0 k o hE ho
    rw [Nat.zero_add, hk] at this
    exact this vs w' b x h1 (fun e he hb hv => hd e he hb (kind_val.2 hv)) h2 h3
  · intro vs w' hB hv hnew hdis
    have hlen : ∀ x ∈ nw, x.1 < l.length ∧ x.2.1 < l.length := fun x hx => by
      have := hna x hx
      refine ⟨this.1, ?_⟩
      have h2 := this.2
      split at h2
      · rename_i o ho; exact (List.getElem?_eq_some_iff.1 ho).1
      · cases h2
    let b : Nat → Nat := fun i => match vs i with | .pointer (some a) => a.block | _ => 0
    have hb : ∀ x ∈ nw, vs x.1 = ptr (b x.1) ∧ w.heap.size ≤ b x.1 ∧ w'.frozen? ⟨b x.1, 0, none⟩ = false ∧ w'.cell? ⟨b x.1, 0, none⟩ = some x.2.2 := fun x hx => by
      obtain ⟨t, k, c⟩ := x
      obtain ⟨k1, k2⟩ := kind_of_new hnd hx
      obtain ⟨l1, l2⟩ := hlen _ hx
      obtain ⟨b', e1, e2, e3, e4⟩ := hnew t k _ l1 l2 k1 k2
      have eb : b t = b' := by simp only [b, e1]
      rw [eb]
      exact ⟨e1, e2, e3, e4⟩
    have key := hend b w' hB (fun x hx => (hb x hx).2) (fun x hx y hy hne hxy => by
      obtain ⟨t, k, c⟩ := x
      obtain ⟨t', k', c'⟩ := y
      have := hdis t t' k k' (hlen _ hx).1 (hlen _ hy).1 hne (kind_of_new hnd hx).1 (kind_of_new hnd hy).1
      rw [(hb _ hx).1, (hb _ hy).1, hxy] at this
      exact this rfl)
    rw [putA_congr' l 0 vs (fv V nw b) a0 (fun i o ho hd => ?_)]
    · exact key
    · rw [Nat.zero_add]
      unfold fv
      split
      · rename_i h
        exact hv i (List.getElem?_eq_some_iff.1 ho).1 (kind_val.2 h)
      · rename_i h
        cases hk : kindOf nw i with
        | val => exact absurd (kind_val.1 hk) h
        | new k =>
          obtain ⟨c, hx⟩ := kind_new hk
          exact (hb _ hx).1
        | put t g =>
          obtain ⟨c, hx, rfl⟩ := kind_put hk
          have := (hna _ hx).2
          simp only [ho, Bool.and_eq_true] at this
          rw [Option.isNone_iff_eq_none.1 this.2] at hd
          cases hd
end
end Go.Proofs.Ytpjbhbbhkhfiaaa.QTail
