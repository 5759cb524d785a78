/- A law on copying a slice of integers that came in into one that the call has just made. -/
import Derived.Test.YtnkkfihcabfkdaaMk
import Derived.Laws.CopyOwn
set_option linter.unusedVariables false
set_option linter.unusedSimpArgs false
namespace Go.Proofs.Ytnkkfihcabfkdaa
open Go.RowKit
theorem splice_all (cur cs : List Value) (h : cur.length = cs.length) : splice cur 0 cs = cs := by
  unfold splice
  rw [List.take_zero, List.nil_append, Nat.zero_add, ← h, List.drop_length, List.append_nil]
theorem row_cells {k : IntKind} {w : World} {g n : Nat} {t : TypeId} {f : Nat → Int} (h : w.heap[g]? = some (.cells ((List.range n).map fun i => Value.int k (f i)).toArray t (0, 0))) : Row k w (some ⟨g, 0, none⟩) n f := fun i hi => by
  refine ⟨_, rfl, ?_⟩
  have : (⟨g, 0, none⟩ : Addr).add i = ⟨g, i, none⟩ := by unfold Addr.add; split <;> simp_all
  rw [this, cell_of_row w g i _ t (0, 0) h]
  simp [hi]
theorem wpList_copyRow {P : Program} {w : World} {ops : Array Oper} {rest : List Oper} {o : Oper} {a : Act} {Q : Exit → Act → World → Prop} (hgd : o.guard = none) (d s : Operand) (dT sT : TypeId)
    (ho : o.op = .call { callee := .builtin .copy, args := #[d, s], argTypes := #[dT, sT] }) (elem : TypeId) (hu : P.underlying dT = some (.slice elem)) (hsz : (P.info? elem).map (·.size) = some 1)
    (k : IntKind) (g n c c' : Nat) (A : Option Addr) (f : Nat → Int) (z : Array Value) (t : TypeId) (hd : a.eval d = .slice (some ⟨g, 0, none⟩) n c) (hs : a.eval s = .slice A n c') (r : Row k w A n f)
    (hg : w.heap[g]? = some (.cells (madeCells z n) t)) (w0 : World) (hb : Below w0.heap.size w0 w) (hBg : w0.heap.size ≤ g)
    (h : ∀ w', Row k w' (some ⟨g, 0, none⟩) n f → Below w0.heap.size w0 w' → g < w'.heap.size → wpList P ops Q rest (a.put o.dst (goInt n)) w') : wpList P ops Q (o :: rest) a w := by
  have hl : (madeCells z n).toList.length = n := by simp [size_madeCells]
  have hc : ((List.range n).map fun i => Value.int k (f i)).length = n := by simp
  refine wpList_copy_splice hgd d s dT sT ho elem hu hsz _ _ n c n c' hd hs g 0 (madeCells z n).toList t (by simpa using hg) ((List.range n).map fun i => Value.int k (f i)) (by rw [hc]; exact (Nat.min_self n).symm) ?_ (by rw [hl, hc]; omega) ?_ w0.heap.size w0 hb hBg ?_
  · intro h0
    obtain ⟨x, rfl, -⟩ := r 0 (by omega)
    refine ⟨rfl, x, rfl, fun j v hj => ?_⟩
    have hj' : j < n := by have := (List.getElem?_eq_some_iff.1 hj).1; omega
    obtain ⟨x', e, hcell⟩ := r j hj'
    cases e
    rw [hcell]
    simpa [hj'] using hj
  · intro v hv
    obtain ⟨i, _, rfl⟩ := List.mem_map.1 hv
    rfl
  · intro w' hg' hb'
    have hg2 := hg'
    unfold Hid at hg2
    rw [splice_all _ _ (by rw [hl, hc])] at hg2
    rw [hc]
    exact h w' (row_cells hg2) hb' (Array.getElem?_eq_some_iff.1 hg2).1
/-- a slice of integers that was cloned -/
def CloneI (k : IntKind) (w : World) (A : Option Addr) (n : Nat) (f : Nat → Int) (e : Ending) (w' : World) : Prop := ∃ A', e = .returned (.slice A' n n) ∧ Row k w' A' n f ∧ (∀ x, A' = some x → w.heap.size ≤ x.block ∧ x.block < w'.heap.size) ∧ Below w.heap.size w w'
end Go.Proofs.Ytnkkfihcabfkdaa
