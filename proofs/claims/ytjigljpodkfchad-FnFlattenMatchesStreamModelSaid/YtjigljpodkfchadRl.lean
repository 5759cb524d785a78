/- A region that draws its order: each operation of a head makes a statement on its own value true that later memory keeps (whatever the order); then one forced tail. -/
import Derived.Test.YtjigljpodkfchadEN
set_option linter.unusedSimpArgs false
set_option linter.unusedVariables false
namespace Go.Proofs.Ytjigljpodkfchad.QTail
open Go.RowKit
section
variable {P : Program}
def EachR (P : Program) (l0 hd : List Oper) (R : Nat → Value → World → Prop) (w : World) (a0 : Act) : Nat → List Oper → Prop
  | _, [] => True
  | k, o :: r => (∀ vs W, Below w.heap.size w W → (∀ e ∈ o.after, Region.binds .any e = true → R e.on (vs e.on) W) →
      wpList P l0.toArray (fun e a' w' => e = .normal ∧ ∃ v, a' = (putA hd 0 vs a0).put o.dst v ∧ R k v w' ∧ Below W.heap.size W w') [o] (putA hd 0 vs a0) W) ∧ EachR P l0 hd R w a0 (k + 1) r
theorem EachR.get {l0 hd : List Oper} {R : Nat → Value → World → Prop} {w : World} {a0 : Act} : ∀ (l : List Oper) (k i : Nat) (o : Oper), EachR P l0 hd R w a0 k l → l[i]? = some o →
    ∀ vs W, Below w.heap.size w W → (∀ e ∈ o.after, Region.binds .any e = true → R e.on (vs e.on) W) →
      wpList P l0.toArray (fun e a' w' => e = .normal ∧ ∃ v, a' = (putA hd 0 vs a0).put o.dst v ∧ R (k + i) v w' ∧ Below W.heap.size W w') [o] (putA hd 0 vs a0) W
  | [], _, i, _, _, h => by simp at h
  | o' :: r, k, 0, o, hE, h => by
    simp only [List.getElem?_cons_zero, Option.some.injEq] at h
    subst h
    exact hE.1
  | o' :: r, k, i + 1, o, hE, h => by
    have := EachR.get r (k + 1) i o hE.2 (by simpa using h)
    rw [show k + (i + 1) = k + 1 + i by omega]
    exact this
theorem drawn_rel {id : Nat} {Q : Exit → Act → World → Prop} {a0 : Act} {w : World} {l : List Oper} (n : Nat) (R : Nat → Value → World → Prop) (hm : P.follows .mixedOrders = true)
    (h2 : (decide (n < l.length) && backB l n && Region.sinkB .any l.toArray n && Region.chainB .any l.toArray n && Region.seqB .any l.toArray (l.length - n) n (allListed n l.length) && dstsB (l.take n)) = true)
    (hR : ∀ i v W W', Below W.heap.size W W' → R i v W → R i v W')
    (hE : EachR P l (l.take n) R w a0 0 (l.take n))
    (hend : ∀ vs W, Below w.heap.size w W → (∀ i, i < n → R i (vs i) W) → wpList P l.toArray Q (l.drop n) (putA (l.take n) 0 vs a0) W) : (Code.region id l.toArray true).wp P Q a0 w := by
  refine wp_region_any hm ?_
  have h3 := h2
  simp only [Bool.and_eq_true, decide_eq_true_eq] at h3
  have hn : n < l.length := h3.1.1.1.1.1
  have := any_rel_tail (P := P) (C := fun W => Below w.heap.size w W) (Q := Q) (a0 := a0) (w := { w with drawn := w.drawn + 1 }) (l := l) n R h2 hR ⟨rfl, rfl, rfl, Nat.le_refl _, fun _ _ => rfl⟩
    (fun i o hi ho vs W hC hd => by
      have htk : (l.take n)[i]? = some o := by rw [List.getElem?_take, if_pos hi]; exact ho
      have := EachR.get _ 0 i o hE htk vs W hC hd
      rw [Nat.zero_add] at this
      refine QTail.wpList_cons_mono (fun e a' w' h => ?_) this
      obtain ⟨e1, v, e2, e3, e4⟩ := h
      exact ⟨e1, v, e2, e3, hC.trans (e4.mono hC.size), e4⟩)
    hend
  simpa using this
end
end Go.Proofs.Ytjigljpodkfchad.QTail
