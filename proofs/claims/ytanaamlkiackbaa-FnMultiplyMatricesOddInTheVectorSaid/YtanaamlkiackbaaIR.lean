/- The law on drawn regions whose operations yield values in relations of their own, operation by operation. -/
import Derived.Test.YtanaamlkiackbaaIT
set_option linter.unusedSimpArgs false
set_option linter.unusedVariables false
namespace Go.Proofs.Ytanaamlkiackbaa.QTail
open Go.RowKit
section
variable {P : Program}
def rel (Rs : List (Value → Prop)) (i : Nat) (v : Value) : Prop := (Rs.getD i (fun _ => True)) v
/-- what is asked of each operation of the head -/
def EachR (P : Program) (l0 : List Oper) (n : Nat) (Rs : List (Value → Prop)) (a0 : Act) (W : World) : Nat → List Oper → Prop
  | _, [] => True
  | k, o :: r => (∀ vs w, Below W.heap.size W w → (∀ e ∈ o.after, Region.binds .any e = true → rel Rs e.on (vs e.on)) →
      wpList P l0.toArray (fun e a' w' => e = .normal ∧ ∃ v, a' = (putA (l0.take n) 0 vs a0).put o.dst v ∧ rel Rs k v ∧ Below w.heap.size w w') [o] (putA (l0.take n) 0 vs a0) w) ∧ EachR P l0 n Rs a0 W (k + 1) r
theorem EachR.get {l0 : List Oper} {n : Nat} {Rs : List (Value → Prop)} {a0 : Act} {W : World} : ∀ (l : List Oper) (k i : Nat) (o : Oper), EachR P l0 n Rs a0 W k l → l[i]? = some o →
    ∀ vs w, Below W.heap.size W w → (∀ e ∈ o.after, Region.binds .any e = true → rel Rs e.on (vs e.on)) →
      wpList P l0.toArray (fun e a' w' => e = .normal ∧ ∃ v, a' = (putA (l0.take n) 0 vs a0).put o.dst v ∧ rel Rs (k + i) v ∧ Below w.heap.size w w') [o] (putA (l0.take n) 0 vs a0) w
  | [], _, i, _, _, h => by simp at h
  | o' :: r, k, 0, o, hE, h => by
    simp only [List.getElem?_cons_zero, Option.some.injEq] at h
    subst h
    exact hE.1
  | o' :: r, k, i + 1, o, hE, h => by
    have := EachR.get r (k + 1) i o hE.2 (by simpa using h)
    rw [show k + (i + 1) = k + 1 + i by omega]
    exact this
theorem wpList_one_mono {ops : Array Oper} {Q Q' : Exit → Act → World → Prop} {o : Oper} {a : Act} {w : World} (h : ∀ e a w, (e = .normal ∧ Q e a w) → (e = .normal ∧ Q' e a w)) (hh : wpList P ops (fun e a w => e = .normal ∧ Q e a w) [o] a w) : wpList P ops (fun e a w => e = .normal ∧ Q' e a w) [o] a w := by
  unfold wpList at *
  by_cases c : Region.wanted o (yielded ops a.tmps) = true
  · rw [if_pos c] at *
    rcases hh with hh | ⟨-, a, w, hh, -⟩
    · exact Or.inl (wp_normal (fun e a w h => h.1) (fun a w h' => h _ _ _ h') hh)
    · cases hh
  · rw [if_neg c] at *
    exact h _ _ _ hh
/-- A REGION THAT DRAWS ITS ORDER: its first n operations yield values in the relations Rs, whatever the order; the others come behind all of them in one forced order. -/
theorem wp_region_rels {id : Nat} {Q : Exit → Act → World → Prop} {a0 : Act} {w : World} {l : List Oper} (n : Nat) (Rs : List (Value → Prop)) (hm : P.follows .mixedOrders = true)
    (h2 : (decide (n < l.length) && backB l n && Region.sinkB .any l.toArray n && Region.chainB .any l.toArray n && Region.seqB .any l.toArray (l.length - n) n (allListed n l.length) && dstsB (l.take n)) = true)
    (hE : EachR P l n Rs a0 w 0 (l.take n))
    (hend : ∀ vs w', Below w.heap.size w w' → (∀ i, i < n → rel Rs i (vs i)) → wpList P l.toArray Q (l.drop n) (putA (l.take n) 0 vs a0) w') : (Code.region id l.toArray true).wp P Q a0 w := by
  refine wp_region_rel_tail n (fun i v _ => rel Rs i v) (fun w' => Below w.heap.size w w') hm h2 (fun _ _ _ _ _ h => h) (Below.refl _ w).drew ?_ hend
  intro i o hi ho vs w' hC hd
  have ho' : (l.take n)[i]? = some o := by rw [List.getElem?_take, if_pos hi]; exact ho
  have := EachR.get (l.take n) 0 i o hE ho' vs w' hC hd
  rw [Nat.zero_add] at this
  refine wpList_one_mono ?_ this
  rintro e a' w'' ⟨h1, v, h3, h4, h5⟩
  exact ⟨h1, v, h3, h4, hC.trans (h5.mono hC.size), h5⟩
end
end Go.Proofs.Ytanaamlkiackbaa.QTail
