/- A law on regions that draw their order of evaluation: the first operations are quiet in a class of worlds, the last ones come behind all of them in one forced order. -/
import Derived.Deep.Quiet
import Derived.StillTail
import Derived.Lib.QuietBelow
set_option linter.unusedSimpArgs false
namespace Go.Proofs.YtkbgkogfjfojgaaDoor.QTail
section
variable {P : Program} {md : Region.Mode} {C : World → Prop}
/-- how many of the first n are not listed -/
def un (listed : Array Bool) : Nat → Nat
  | 0 => 0
  | k + 1 => un listed k + (if listed.getD k true = false then 1 else 0)
theorem gset (listed : Array Bool) (i j : Nat) (d : Bool) (hi : i < listed.size) : (listed.setIfInBounds i true).getD j d = if i = j then true else listed.getD j d := by
  by_cases h : i = j
  · subst h; simp [hi]
  · rw [if_neg h]
    rw [Array.getD_eq_getD_getElem?, Array.getD_eq_getD_getElem?, Array.getElem?_setIfInBounds_ne h]
theorem un_set_ge (listed : Array Bool) (i : Nat) (hi : i < listed.size) : ∀ k, k ≤ i → un (listed.setIfInBounds i true) k = un listed k
  | 0, _ => rfl
  | k + 1, h => by
    unfold un
    have e : (listed.setIfInBounds i true).getD k true = listed.getD k true := by rw [gset _ _ _ _ hi, if_neg (by omega)]
    rw [un_set_ge listed i hi k (by omega), e]
theorem un_set (listed : Array Bool) (i : Nat) (hi : i < listed.size) (hf : listed.getD i true = false) : ∀ k, i < k → un (listed.setIfInBounds i true) k + 1 = un listed k
  | 0, h => by omega
  | k + 1, h => by
    unfold un
    rw [gset _ _ _ _ hi]
    by_cases e : i = k
    · subst e
      rw [un_set_ge listed i hi i (Nat.le_refl _), if_pos rfl, if_pos hf]
      simp
    · rw [if_neg e]
      have := un_set listed i hi hf k (by omega)
      omega
theorem un_zero {listed : Array Bool} : ∀ {k : Nat}, un listed k = 0 → ∀ i, i < k → listed.getD i true = true
  | 0, _, i, h => by omega
  | k + 1, h0, i, h => by
    unfold un at h0
    by_cases e : i = k
    · subst e
      cases hg : listed.getD i true with
      | true => rfl
      | false => rw [if_pos hg] at h0; omega
    · exact un_zero (k := k) (by omega) i (by omega)
theorem un_pos {listed : Array Bool} : ∀ {k : Nat}, 0 < un listed k → ∃ i, i < k ∧ listed.getD i true = false ∧ ∀ j, j < i → listed.getD j true = true
  | 0, h => by simp [un] at h
  | k + 1, h => by
    by_cases c : 0 < un listed k
    · obtain ⟨i, hi, h1, h2⟩ := un_pos c
      exact ⟨i, by omega, h1, h2⟩
    · have z : un listed k = 0 := by omega
      unfold un at h
      rw [z] at h
      by_cases e : listed.getD k true = false
      · exact ⟨k, by omega, e, fun j hj => un_zero z j hj⟩
      · rw [if_neg e] at h; omega
/-- edges and guards of the first n point backwards -/
def backB (l : List Oper) (n : Nat) : Bool :=
  (List.range n).all fun i => match l[i]? with
    | some o => o.after.all (fun e => decide (e.on < i)) && (match o.guard with | none => true | some (j, _) => decide (j < n))
    | none => false
theorem backB_edge {l : List Oper} {n i : Nat} {o : Oper} (h : backB l n = true) (hi : i < n) (ho : l[i]? = some o) : ∀ e ∈ o.after, e.on < i := by
  have := List.all_eq_true.1 h i (List.mem_range.2 hi)
  rw [ho] at this
  simp only [Bool.and_eq_true] at this
  intro e he
  have := Array.all_eq_true'.1 this.1 e he
  simpa using this
theorem backB_guard {l : List Oper} {n i : Nat} {o : Oper} (h : backB l n = true) (hi : i < n) (ho : l[i]? = some o) : ∀ j b, o.guard = some (j, b) → j < n := by
  have := List.all_eq_true.1 h i (List.mem_range.2 hi)
  rw [ho] at this
  simp only [Bool.and_eq_true] at this
  intro j b hg
  have h2 := this.2
  rw [hg] at h2
  simpa using h2
theorem yielded_take {l : List Oper} {n j : Nat} (hj : j < n) (t : Array Value) : yielded (l.take n).toArray t j = yielded l.toArray t j := by
  unfold yielded
  simp [hj]
theorem wanted_take {l : List Oper} {n i : Nat} {o : Oper} (h : backB l n = true) (hi : i < n) (ho : l[i]? = some o) (t : Array Value) :
    Region.wanted o (yielded (l.take n).toArray t) = Region.wanted o (yielded l.toArray t) := by
  unfold Region.wanted
  cases hg : o.guard with
  | none => rfl
  | some g => obtain ⟨j, b⟩ := g; simp only; rw [yielded_take (backB_guard h hi ho j b hg)]
theorem qOp_take {l : List Oper} {n i : Nat} (h : backB l n = true) (hi : i < n) (hn : n < l.length) {K : Act → Prop} {a : Act} (hq : qOp P (l.take n).toArray C i K a) : qOp P l.toArray C i K a := by
  have hil : i < l.length := by omega
  have e1 : (l.take n).toArray[i]? = some l[i] := by simp [hi, hil]
  have e2 : l.toArray[i]? = some l[i] := by simp [hil]
  unfold qOp at *
  rw [e1] at hq
  rw [e2]
  simp only at *
  rwa [wanted_take h hi (by simp [hil])] at hq
/-- two lists of what has come up: of the head alone, and of the whole, the tail not yet -/
structure Both (l : List Oper) (n : Nat) (lh listed : Array Bool) : Prop where
  sh : lh.size = n
  s : listed.size = l.length
  same : ∀ i, i < n → lh.getD i true = listed.getD i true
  tail : ∀ i, n ≤ i → i < l.length → listed.getD i true = false
theorem Both.same' {l : List Oper} {n : Nat} {lh listed : Array Bool} (b : Both l n lh listed) (hn : n < l.length) {i : Nat} (hi : i < n) : lh.getD i false = listed.getD i false := by
  have := b.same i hi
  have h1 : i < lh.size := by rw [b.sh]; exact hi
  have h2 : i < listed.size := by rw [b.s]; omega
  simpa [Array.getD, h1, h2] using this
theorem Both.set {l : List Oper} {n : Nat} {lh listed : Array Bool} (b : Both l n lh listed) (hn : n < l.length) {i : Nat} (hi : i < n) : Both l n (lh.setIfInBounds i true) (listed.setIfInBounds i true) := by
  have h1 : i < lh.size := by rw [b.sh]; exact hi
  have h2 : i < listed.size := by rw [b.s]; omega
  refine ⟨by simp [b.sh], by simp [b.s], fun j hj => ?_, fun j hj hj2 => ?_⟩
  · rw [gset _ _ _ _ h1, gset _ _ _ _ h2, b.same j hj]
  · rw [gset _ _ _ _ h2, if_neg (by omega)]; exact b.tail j hj hj2
theorem Both.ready {l : List Oper} {n : Nat} {lh listed : Array Bool} (b : Both l n lh listed) (hn : n < l.length) (hb : backB l n = true) {i : Nat} (hi : i < n) :
    i ∈ Region.ready md (l.take n).toArray lh ↔ i ∈ Region.ready md l.toArray listed := by
  have hil : i < l.length := by omega
  have e1 : (l.take n).toArray[i]? = some l[i] := by simp [hi, hil]
  have e2 : l.toArray[i]? = some l[i] := by simp [hil]
  rw [mem_ready, mem_ready, b.same i hi, e1, e2]
  constructor
  · rintro ⟨h1, o, ho, h2⟩
    refine ⟨h1, o, ho, fun e he hbi => ?_⟩
    cases ho
    have he' := backB_edge hb hi (by simp [hil]) e he
    rw [← b.same' hn (by omega)]
    exact h2 e he hbi
  · rintro ⟨h1, o, ho, h2⟩
    refine ⟨h1, o, ho, fun e he hbi => ?_⟩
    cases ho
    have he' := backB_edge hb hi (by simp [hil]) e he
    rw [b.same' hn (by omega)]
    exact h2 e he hbi
def allListed (n m : Nat) : Array Bool := Array.replicate n true ++ Array.replicate (m - n) false
theorem head_any {l : List Oper} {n : Nat} {Q : Exit → Act → World → Prop} (hn : n < l.length) (hb : backB l n = true) (hs : Region.sinkB md l.toArray n = true) (hc : Region.chainB md l.toArray n = true)
    (hq : Region.seqB md l.toArray (l.length - n) n (allListed n l.length) = true) :
    ∀ (f : Nat) (lh listed : Array Bool) (a : Act) (w : World), C w → Both l n lh listed → HeadInv md l.toArray n listed → un listed n = f →
      wpAnyQ P md (l.take n).toArray C (fun a' => ∀ w', C w' → wpList P l.toArray Q (l.drop n) a' w') f lh a → wpAny P md l.toArray Q (f + (l.length - n)) listed a w
  | 0, lh, listed, a, w, hw, b, inv, hu, h => by
    have e : listed = allListed n l.length := by
      apply Array.ext
      · rw [b.s]; simp [allListed]; omega
      · intro i h1 h2
        have z := un_zero hu i
        by_cases c : i < n
        · have := z c
          simp [Array.getD, h1] at this
          rw [this]; simp [allListed, Array.getElem_append, c]
        · have := b.tail i (by omega) (by rw [b.s] at h1; exact h1)
          simp [Array.getD, h1] at this
          rw [this]; simp [allListed, Array.getElem_append, c]
    have hd : (l.drop n).length = l.length - n := by simp
    have := wpAny_of_seq (md := md) (Q' := Q) (l.drop n) n listed a w (fun j => by simp [List.getElem?_drop]) (by rw [hd, e]; exact hq) (h.2 w hw)
    rw [hd] at this
    rw [Nat.zero_add]; exact this
  | f + 1, lh, listed, a, w, hw, b, inv, hu, h => by
    rw [show f + 1 + (l.length - n) = (f + (l.length - n)) + 1 by omega]
    obtain ⟨i0, hi0, hf0, hmin⟩ := un_pos (listed := listed) (k := n) (by omega)
    have hr0 : i0 ∈ Region.ready md l.toArray listed := by
      rw [mem_ready]
      refine ⟨hf0, l[i0], by simp, fun e he _ => ?_⟩
      have he' := backB_edge hb hi0 (by simp) e he
      have := hmin e.on he'
      have hsz : e.on < listed.size := by rw [b.s]; omega
      simpa [Array.getD, hsz] using this
    refine ⟨fun h0 => (by rw [h0] at hr0; cases hr0), fun i hi => ?_⟩
    have hin : i < n := by
      rcases Nat.lt_or_ge i n with c | c
      · exact c
      · exact absurd hi (tail_waits hs hc (by simpa using hn) inv (n - i0) i0 rfl hi0 hf0 i c)
    have hih := (b.ready (md := md) hn hb hin).2 hi
    have hq1 := h.2 i hih
    have hq2 := qOp_take hb hin hn hq1
    have hil : i < listed.size := by rw [b.s]; omega
    have hfi := (mem_ready.1 hi).1
    exact wpOp_of_qOp hw (fun a' w' hw' hK => head_any hn hb hs hc hq f _ _ a' w' hw' (b.set hn hin) (inv.set hi hin) (by have := un_set listed i hil hfi n hin; omega) hK) hq2
theorem un_false (m : Nat) : ∀ k, k ≤ m → un (Array.replicate m false) k = k
  | 0, _ => rfl
  | k + 1, h => by
    unfold un
    rw [un_false m k (by omega)]
    simp [Array.getD, show k < m by omega]
/-- A REGION THAT DRAWS ITS ORDER: its first n operations quiet in the class C, the others in one forced order behind all of them. -/
theorem wp_region_quiet_tail {id : Nat} {Q : Exit → Act → World → Prop} {a : Act} {w : World} {l : List Oper} (n : Nat) (hm : P.follows .mixedOrders = true)
    (h1 : Region.lexB .any (l.take n).toArray = true)
    (h2 : (decide (n < l.length) && backB l n && Region.sinkB .any l.toArray n && Region.chainB .any l.toArray n && Region.seqB .any l.toArray (l.length - n) n (allListed n l.length)) = true)
    (hC : C { w with drawn := w.drawn + 1 })
    (h : wpQuiet P (l.take n).toArray C (fun a' => ∀ w', C w' → wpList P l.toArray Q (l.drop n) a' w') (l.take n) a) : (Code.region id l.toArray true).wp P Q a w := by
  simp only [Bool.and_eq_true, decide_eq_true_eq] at h2
  obtain ⟨⟨⟨⟨hn, hb⟩, hs⟩, hc⟩, hq⟩ := h2
  simp only [Region.lexB, Bool.and_eq_true] at h1
  have hl : (l.take n).length = n := by simp; omega
  have H := wpAnyQ_lex (C := C) (md := .any) h1.1 (l.take n) 0 (Array.replicate (l.take n).toArray.size false) a (by simp) (by simpa using h1.2) h
  rw [hl] at H
  refine wp_region_any hm ?_
  have inv0 : HeadInv .any l.toArray n (Array.replicate l.toArray.size false) :=
    ⟨by simp, fun j oj _ hl => (by rw [getD_replicate_false] at hl; cases hl), fun t _ ht => getD_in (by simpa using ht) (getD_replicate_false _ _)⟩
  have := head_any (P := P) (C := C) (Q := Q) hn hb hs hc hq n _ (Array.replicate l.toArray.size false) a _ hC
    ⟨by simp; omega, by simp, fun i hi => by simp [Array.getD, show i < l.length by omega]; omega, fun i hi hi2 => by simp [Array.getD, hi2]⟩ inv0 (by rw [un_false _ _ (by simp; omega)]) H
  rw [show n + (l.length - n) = l.toArray.size by simp; omega] at this
  exact this
open Go.Sort in
/-- .. at the class 'w, whatever was drawn, with blocks laid behind it' -/
theorem wp_region_below_tail {id : Nat} {Q : Exit → Act → World → Prop} {a : Act} {w : World} {l : List Oper} (n : Nat) (hm : P.follows .mixedOrders = true)
    (h1 : Region.lexB .any (l.take n).toArray = true)
    (h2 : (decide (n < l.length) && backB l n && Region.sinkB .any l.toArray n && Region.chainB .any l.toArray n && Region.seqB .any l.toArray (l.length - n) n (allListed n l.length)) = true)
    (h : wpQuiet P (l.take n).toArray (fun w' => ∃ p : Regrown, w' = grow (redrawn w p.d) p.os) (fun a' => ∀ w', (∃ p : Regrown, w' = grow (redrawn w p.d) p.os) → wpList P l.toArray Q (l.drop n) a' w') (l.take n) a) : (Code.region id l.toArray true).wp P Q a w :=
  wp_region_quiet_tail (C := fun w' => ∃ p : Regrown, w' = grow (redrawn w p.d) p.os) n hm h1 h2 ⟨⟨w.drawn + 1, #[]⟩, by rw [grow_empty]; rfl⟩ h
end
end Go.Proofs.YtkbgkogfjfojgaaDoor.QTail
