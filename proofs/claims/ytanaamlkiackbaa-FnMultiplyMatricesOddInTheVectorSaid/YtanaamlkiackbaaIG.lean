/- The law on drawn regions by kinds, by relations: operations that yield a value in a relation of its own, new variables, stores of yielded values into them; whatever the order. -/
import Derived.Test.YtanaamlkiackbaaIR
import Derived.Test.YtanaamlkiackbaaIS
set_option linter.unusedSimpArgs false
set_option linter.unusedVariables false
namespace Go.Proofs.Ytanaamlkiackbaa.QRel
open Go.RowKit
open QTail
section
variable {P : Program}
def isVal (nw : List (Nat × Nat × Nat)) (i : Nat) : Bool := nw.all fun x => decide (x.1 ≠ i) && decide (x.2.1 ≠ i)
/-- the one cell of a wrapped value -/
def unfl : Value → Value
  | .agg cs => cs.getD 0 undef
  | v => v
def kindOf (nw : List (Nat × Nat × Nat)) (i : Nat) : Kind :=
  match nw.find? (fun x => x.1 == i) with
  | some x => .new x.2.1
  | none => match nw.find? (fun x => x.2.1 == i) with
    | some x => .put x.1 (fun vs => unfl (vs x.2.2))
    | none => .val
def nwB (l : List Oper) (nw : List (Nat × Nat × Nat)) : Bool :=
  decide ((nw.map (·.1) ++ nw.map (·.2.1)).Nodup) && nw.all fun x => decide (x.1 < l.length) && (match l[x.2.1]? with | some o => o.after.any (fun e => Region.binds .any e && (e.on == x.1)) && o.after.any (fun e => Region.binds .any e && (e.on == x.2.2)) && o.dst.isNone | none => false)
def DepsOK (V : List (Value → Prop)) (nw : List (Nat × Nat × Nat)) (o : Oper) (vs : Nat → Value) : Prop := ∀ e ∈ o.after, Region.binds .any e = true → isVal nw e.on = true → rel V e.on (vs e.on)
/-- what is asked of each operation -/
def Each (P : Program) (l0 : List Oper) (V : List (Value → Prop)) (nw : List (Nat × Nat × Nat)) (a0 : Act) (w : World) : Nat → List Oper → Prop
  | _, [] => True
  | k, o :: r => (match kindOf nw k with
    | .val => ∀ vs w', Below w.heap.size w w' → DepsOK V nw o vs → wpList P l0.toArray (fun e a' w'' => e = .normal ∧ (∃ v, a' = (putA l0 0 vs a0).put o.dst v ∧ rel V k v ∧ Below w'.heap.size w' w'')) [o] (putA l0 0 vs a0) w'
    | .new _ => ∀ vs w', wpList P l0.toArray (fun e a' w'' => e = .normal ∧ a' = (putA l0 0 vs a0).put o.dst (ptr w'.heap.size) ∧ ∃ c t, w'' = w'.alloc (.cells #[c] t)) [o] (putA l0 0 vs a0) w'
    | .put t g => ∀ vs w' b x, vs t = ptr b → DepsOK V nw o vs → w'.cell? ⟨b, 0, none⟩ = some x → w'.frozen? ⟨b, 0, none⟩ = false →
      wpList P l0.toArray (fun e a' w'' => e = .normal ∧ a' = (putA l0 0 vs a0).put o.dst undef ∧ w'' = w'.setCell ⟨b, 0, none⟩ (g vs)) [o] (putA l0 0 vs a0) w') ∧ Each P l0 V nw a0 w (k + 1) r
theorem Each.get {l0 : List Oper} {V : List (Value → Prop)} {nw : List (Nat × Nat × Nat)} {a0 : Act} {w : World} : ∀ (l : List Oper) (k i : Nat) (o : Oper), Each P l0 V nw a0 w k l → l[i]? = some o →
    (match kindOf nw (k + i) with
    | .val => ∀ vs w', Below w.heap.size w w' → DepsOK V nw o vs → wpList P l0.toArray (fun e a' w'' => e = .normal ∧ (∃ v, a' = (putA l0 0 vs a0).put o.dst v ∧ rel V (k + i) v ∧ Below w'.heap.size w' w'')) [o] (putA l0 0 vs a0) w'
    | .new _ => ∀ vs w', wpList P l0.toArray (fun e a' w'' => e = .normal ∧ a' = (putA l0 0 vs a0).put o.dst (ptr w'.heap.size) ∧ ∃ c t, w'' = w'.alloc (.cells #[c] t)) [o] (putA l0 0 vs a0) w'
    | .put t g => ∀ vs w' b x, vs t = ptr b → DepsOK V nw o vs → w'.cell? ⟨b, 0, none⟩ = some x → w'.frozen? ⟨b, 0, none⟩ = false →
      wpList P l0.toArray (fun e a' w'' => e = .normal ∧ a' = (putA l0 0 vs a0).put o.dst undef ∧ w'' = w'.setCell ⟨b, 0, none⟩ (g vs)) [o] (putA l0 0 vs a0) w')
  | [], _, i, _, _, h => by simp at h
  | o' :: r, k, 0, o, hE, h => by
    simp only [List.getElem?_cons_zero, Option.some.injEq] at h
    subst h
    exact hE.1
  | o' :: r, k, i + 1, o, hE, h => by
    have := Each.get r (k + 1) i o hE.2 (by simpa using h)
    rw [show k + (i + 1) = k + 1 + i by omega]
    exact this
theorem kind_val {nw : List (Nat × Nat × Nat)} {i : Nat} : kindOf nw i = .val ↔ isVal nw i = true := by
  unfold kindOf isVal
  rw [List.all_eq_true]
  constructor
  · intro h x hx
    split at h
    · cases h
    · rename_i h1
      split at h
      · cases h
      · rename_i h2
        have a1 := List.find?_eq_none.1 h1 x hx
        have a2 := List.find?_eq_none.1 h2 x hx
        simp at a1 a2
        simp [a1, a2]
  · intro h
    have h1 : nw.find? (fun x => x.1 == i) = none := List.find?_eq_none.2 fun x hx => by have := h x hx; simp at this ⊢; exact this.1
    have h2 : nw.find? (fun x => x.2.1 == i) = none := List.find?_eq_none.2 fun x hx => by have := h x hx; simp at this ⊢; exact this.2
    rw [h1, h2]
theorem kind_new {nw : List (Nat × Nat × Nat)} {i k : Nat} (h : kindOf nw i = .new k) : ∃ c, (i, k, c) ∈ nw := by
  unfold kindOf at h
  split at h
  · rename_i x hx
    cases h
    have h1 := List.find?_some hx
    have h2 := List.mem_of_find?_eq_some hx
    simp at h1
    obtain ⟨a, b, c⟩ := x
    simp only at h1
    subst h1
    exact ⟨c, h2⟩
  · split at h <;> cases h
theorem nodup_fst {nw : List (Nat × Nat × Nat)} (h : (nw.map (·.1) ++ nw.map (·.2.1)).Nodup) {x y : Nat × Nat × Nat} (hx : x ∈ nw) (hy : y ∈ nw) : (x.1 = y.1 → x = y) ∧ (x.2.1 = y.2.1 → x = y) ∧ x.1 ≠ y.2.1 := by
  have h1 := (List.nodup_append.1 h).1
  have h2 := (List.nodup_append.1 h).2.1
  have h3 := (List.nodup_append.1 h).2.2
  obtain ⟨i, hi, rfl⟩ := List.getElem_of_mem hx
  obtain ⟨j, hj, rfl⟩ := List.getElem_of_mem hy
  refine ⟨fun e => ?_, fun e => ?_, h3 _ (List.mem_map_of_mem (List.getElem_mem hi)) _ (List.mem_map_of_mem (List.getElem_mem hj))⟩
  · have : i = j := (List.getElem_inj (h₀ := by simpa using hi) (h₁ := by simpa using hj) h1).1 (by simpa using e)
    subst this; rfl
  · have : i = j := (List.getElem_inj (h₀ := by simpa using hi) (h₁ := by simpa using hj) h2).1 (by simpa using e)
    subst this; rfl
theorem kind_of_new {nw : List (Nat × Nat × Nat)} (h : (nw.map (·.1) ++ nw.map (·.2.1)).Nodup) {t k c : Nat} (hx : (t, k, c) ∈ nw) : kindOf nw t = .new k ∧ kindOf nw k = .put t (fun vs => unfl (vs c)) := by
  have e1 : nw.find? (fun x => x.1 == t) = some (t, k, c) := by
    cases hf : nw.find? (fun x => x.1 == t) with
    | none => have := List.find?_eq_none.1 hf _ hx; simp at this
    | some y =>
      have h1 := List.find?_some hf
      have h2 := List.mem_of_find?_eq_some hf
      simp at h1
      rw [(nodup_fst h h2 hx).1 h1]
  have e2 : nw.find? (fun x => x.1 == k) = none := List.find?_eq_none.2 fun y hy => by
    have := (nodup_fst h hy hx).2.2
    simpa using this
  have e3 : nw.find? (fun x => x.2.1 == k) = some (t, k, c) := by
    cases hf : nw.find? (fun x => x.2.1 == k) with
    | none => have := List.find?_eq_none.1 hf _ hx; simp at this
    | some y =>
      have h1 := List.find?_some hf
      have h2 := List.mem_of_find?_eq_some hf
      simp at h1
      rw [(nodup_fst h h2 hx).2.1 h1]
  constructor
  · unfold kindOf; rw [e1]
  · unfold kindOf; rw [e2, e3]
theorem kind_put {nw : List (Nat × Nat × Nat)} {k t : Nat} {g : (Nat → Value) → Value} (h : kindOf nw k = .put t g) : ∃ c, (t, k, c) ∈ nw ∧ g = fun vs => unfl (vs c) := by
  unfold kindOf at h
  split at h
  · cases h
  · split at h
    · rename_i x hx
      cases h
      have h1 := List.find?_some hx
      have h2 := List.mem_of_find?_eq_some hx
      simp at h1
      obtain ⟨a, b, c⟩ := x
      simp only at h1
      subst h1
      exact ⟨c, h2, rfl⟩
    · cases h
theorem wp_region_rel {id : Nat} {Q : Exit → Act → World → Prop} {a0 : Act} {w : World} {l : List Oper} (V : List (Value → Prop)) (nw : List (Nat × Nat × Nat)) (hm : P.follows .mixedOrders = true) (hl : okB l = true) (hn : nwB l nw = true)
    (hE : Each P l V nw a0 w 0 l)
    (hend : ∀ (vs : Nat → Value) (w' : World), Below w.heap.size w w' → (∀ i, i < l.length → isVal nw i = true → rel V i (vs i)) →
      (∀ x ∈ nw, ∃ b, vs x.1 = ptr b ∧ w.heap.size ≤ b ∧ w'.frozen? ⟨b, 0, none⟩ = false ∧ w'.cell? ⟨b, 0, none⟩ = some (unfl (vs x.2.2))) → (∀ x ∈ nw, ∀ y ∈ nw, x.1 ≠ y.1 → vs x.1 ≠ vs y.1) → Q .normal (putA l 0 vs a0) w') :
    (Code.region id l.toArray true).wp P Q a0 w := by
  unfold nwB at hn
  simp only [Bool.and_eq_true, decide_eq_true_eq, List.all_eq_true] at hn
  obtain ⟨hnd, hna⟩ := hn
  refine wp_region_spec (kindOf nw) (fun i vs => rel V i (vs i)) hm hl ?_ ?_ ?_ ?_ ?_ ?_ ?_
  · intro k t g h
    obtain ⟨c, hx, rfl⟩ := kind_put h
    refine ⟨(kind_of_new hnd hx).1, fun o ho => ?_⟩
    have := (hna _ hx).2
    simp only [ho, Bool.and_eq_true] at this
    obtain ⟨e, he, h1⟩ := Array.any_eq_true'.1 this.1.1
    simp only [Bool.and_eq_true, beq_iff_eq] at h1
    exact ⟨e, he, h1.1, h1.2⟩
  · intro i o vs vs' _ _ h _ hv
    rw [← h]; exact hv
  · intro k t g o vs vs' h ho hvs
    obtain ⟨c, hx, rfl⟩ := kind_put h
    have := (hna _ hx).2
    simp only [ho, Bool.and_eq_true] at this
    obtain ⟨e, he, h1⟩ := Array.any_eq_true'.1 this.1.2
    simp only [Bool.and_eq_true, beq_iff_eq] at h1
    have h2 := hvs e he h1.1
    rw [h1.2] at h2
    show unfl (vs c) = unfl (vs' c)
    rw [h2]
  · intro i o ho hk vs w' hB hd
    have := Each.get l 0 i o hE ho
    rw [Nat.zero_add, hk] at this
    have key := this vs w' hB (fun e he hb hv => hd e he hb (kind_val.2 hv))
    refine wpList_one_mono (fun e a' w'' h => ?_) key
    obtain ⟨h1, v, h2, h3, h4⟩ := h
    exact ⟨h1, v, h2, by show rel V i (upd vs i v i); simp only [upd, if_true]; exact h3, h4⟩
  · intro i o k ho hk vs w'
    have := Each.get l 0 i o hE ho
    rw [Nat.zero_add, hk] at this
    exact this vs w'
  · intro k o t g ho hk vs w' b x h1 hd h2 h3
    have := Each.get l 0 k o hE ho
    rw [Nat.zero_add, hk] at this
    exact this vs w' b x h1 (fun e he hb hv => hd e he hb (kind_val.2 hv)) h2 h3
  · intro vs w' hB hv hnew hdis
    have hlen : ∀ x ∈ nw, x.1 < l.length ∧ x.2.1 < l.length := fun x hx => by
      have := hna x hx
      refine ⟨this.1, ?_⟩
      have h2 := this.2
      split at h2
      · rename_i o ho; exact (List.getElem?_eq_some_iff.1 ho).1
      · cases h2
    refine hend vs w' hB (fun i hi h => hv i hi (kind_val.2 h)) (fun x hx => ?_) (fun x hx y hy hne => ?_)
    · obtain ⟨t, k, c⟩ := x
      obtain ⟨k1, k2⟩ := kind_of_new hnd hx
      obtain ⟨l1, l2⟩ := hlen _ hx
      exact hnew t k _ l1 l2 k1 k2
    · obtain ⟨t, k, c⟩ := x
      obtain ⟨t', k', c'⟩ := y
      exact hdis t t' k k' (hlen _ hx).1 (hlen _ hy).1 hne (kind_of_new hnd hx).1 (kind_of_new hnd hy).1
end
end Go.Proofs.Ytanaamlkiackbaa.QRel
