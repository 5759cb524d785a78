/- Loads and stores of a struct that lies somewhere in a block, each in one step. -/
import Derived.Test.YtjigljpodkfchadWd
import Derived.Laws.Rows
import Derived.Laws.IdiomCopy
set_option linter.unusedVariables false
set_option linter.unusedSimpArgs false
namespace Go.Proofs.Ytjigljpodkfchad
open Go.RowKit
section
variable {P : Program}
theorem run_loadVar_seg (w : World) (b o : Nat) (ty : TypeId) (vs : List Value) (d : TypeDesc) (hu : P.underlying ty = some d) (hd : (match d with | .struct _ | .array _ _ => true | _ => false) = true) (hi : (P.info? ty).map (·.size) = some vs.length)
    (hc : ∀ j v, vs[j]? = some v → w.cell? ⟨b, o + j, none⟩ = some v) : (loadVar ty ⟨b, o, none⟩).run P w = .ok (.agg vs.toArray) w := by
  have hl : (loadCells ⟨b, o, none⟩ vs.length).run P w = .ok vs.toArray w :=
    run_loadCells_list (P := P) w ⟨b, o, none⟩ vs (fun j v hv => by
      have hadd : (⟨b, o, none⟩ : Addr).add j = ⟨b, o + j, none⟩ := by unfold Addr.add; split <;> simp_all
      rw [hadd]
      exact hc j v hv)
  cases hq : P.info? ty with
  | none => simp [hq] at hi
  | some i =>
    have hs : i.size = vs.length := by simpa [hq] using hi
    have hagg : (isAgg ty).run P w = .ok true w := by
      unfold isAgg
      rw [Sem.run_bind, run_underlying hu w]
      cases d <;> simp_all
    simp [loadVar, Sem.run_bind, hagg, sizeOf, typeInfo, hq, hs, hl]
theorem run_storeVar_seg (w : World) (b o : Nat) (ty : TypeId) (vs : List Value) (hi : (P.info? ty).map (·.size) = some vs.length)
    (hc : ∀ j, j < vs.length → (w.cell? ⟨b, o + j, none⟩).isSome = true) (hf : ∀ j, j < vs.length → w.frozen? ⟨b, o + j, none⟩ = false) (h1 : ∀ v ∈ vs, v.oneCell' = true) :
    (storeVar ty ⟨b, o, none⟩ (.agg vs.toArray)).run P w = .ok () (w.setCells b o vs) := by
  have := run_storeCells_cells (P := P) b o vs 0 w (by simpa using hc) (by simpa using hf) h1
  cases hq : P.info? ty with
  | none => simp [hq] at hi
  | some i =>
    have hs : vs.length = i.size := by simp [hq] at hi; omega
    simp only [Nat.add_zero] at this
    simp [storeVar, sizeOf, typeInfo, hq, Value.cells, hs, this]
theorem wpList_load_seg {ops : Array Oper} {rest : List Oper} {op : Oper} {a : Act} {w : World} {Q : Exit → Act → World → Prop} (hgd : op.guard = none) (ty : TypeId) (x : Operand) (ho : op.op = .load ty x)
    (b o : Nat) (hx : a.eval x = .pointer (some ⟨b, o, none⟩)) (vs : List Value) (d : TypeDesc) (hu : P.underlying ty = some d) (hd : (match d with | .struct _ | .array _ _ => true | _ => false) = true) (hi : (P.info? ty).map (·.size) = some vs.length)
    (hc : ∀ j v, vs[j]? = some v → w.cell? ⟨b, o + j, none⟩ = some v)
    (h : wpList P ops Q rest (a.put op.dst (.agg vs.toArray)) w) : wpList P ops Q (op :: rest) a w :=
  wpList_plain hgd fun _ hK => by
    unfold Oper.wp execOp
    simp only [ho, hx, Instr.loadAt, Instr.sureAddr, Sem.run_bind, Sem.run_pure, Result.andThen_ok, run_loadVar_seg w b o ty vs d hu hd hi hc]
    exact hK _ _ h
theorem wpList_store_seg {ops : Array Oper} {rest : List Oper} {op : Oper} {a : Act} {w : World} {Q : Exit → Act → World → Prop} (hgd : op.guard = none) (ty : TypeId) (x y : Operand) (ho : op.op = .store ty x y)
    (b o : Nat) (vs : List Value) (hx : a.eval x = .pointer (some ⟨b, o, none⟩)) (hy : a.eval y = .agg vs.toArray) (hi : (P.info? ty).map (·.size) = some vs.length)
    (hc : ∀ j, j < vs.length → (w.cell? ⟨b, o + j, none⟩).isSome = true) (hf : ∀ j, j < vs.length → w.frozen? ⟨b, o + j, none⟩ = false) (h1 : ∀ v ∈ vs, v.oneCell' = true)
    (h : ∀ W, W = w.setCells b o vs → wpList P ops Q rest (a.put op.dst undef) W) : wpList P ops Q (op :: rest) a w :=
  wpList_plain hgd fun _ hK => by
    unfold Oper.wp execOp
    simp only [ho, hx, hy, Instr.storeAt, Instr.sureAddr, Sem.run_bind, Sem.run_pure, Result.andThen_ok, run_storeVar_seg w b o ty vs hi hc hf h1]
    exact hK _ _ (h _ rfl)
end
theorem setCells_size (b : Nat) : ∀ (vs : List Value) (o : Nat) (w : World), (w.setCells b o vs).heap.size = w.heap.size
  | [], _, _ => rfl
  | v :: r, o, w => by rw [World.setCells, setCells_size b r]; simp [World.setCell]
theorem Only.setCells {S : Nat → Prop} {w w' : World} (b : Nat) (hb : S b) : ∀ (vs : List Value) (o : Nat), Only S w w' → Only S w (w'.setCells b o vs) := by
  intro vs
  induction vs generalizing w' with
  | nil => intro o h; exact h
  | cons v r ih => intro o h; rw [World.setCells]; exact ih _ (h.set _ _ hb)
theorem Room.setCells {T N : Nat} (b : Nat) : ∀ (vs : List Value) (o : Nat) (w : World), Room w T N → Room (w.setCells b o vs) T N
  | [], _, _, h => h
  | v :: r, o, w, h => by rw [World.setCells]; exact Room.setCells b r _ _ (h.setA _ _)
theorem setCells_in {w : World} {b o N : Nat} {vs : List Value} (h : Room w b N) (hN : o + vs.length ≤ N) {j : Nat} {v : Value} (hj : vs[j]? = some v) : (w.setCells b o vs).cell? ⟨b, o + j, none⟩ = some v := by
  obtain ⟨hj', rfl⟩ := List.getElem?_eq_some_iff.1 hj
  exact World.cell?_setCells_in b vs o w (fun i hi => by obtain ⟨u, hu, -⟩ := h (o + i) (by omega); rw [hu]; rfl) j hj'
theorem setCells_out {w : World} {b o i : Nat} {vs : List Value} (h : i < o ∨ o + vs.length ≤ i) : (w.setCells b o vs).cell? ⟨b, i, none⟩ = w.cell? ⟨b, i, none⟩ :=
  World.cell?_setCells_out b vs o w _ (fun _ _ => by simpa using h)
/-- a block's cells are vs from o on -/
def Seg (w : World) (b o : Nat) (vs : List Value) : Prop := ∀ j v, vs[j]? = some v → w.cell? ⟨b, o + j, none⟩ = some v
theorem Seg.after {w w' : World} {b o : Nat} {vs : List Value} (h : Seg w b o vs) (hb : Below w.heap.size w w') : Seg w' b o vs := fun j v hj => ac hb (h j v hj)
theorem Seg.only {S : Nat → Prop} {w w' : World} {b o : Nat} {vs : List Value} (h : Seg w b o vs) (ho : Only S w w') (hs : ¬ S b) : Seg w' b o vs := fun j v hj => ho.keep (h j v hj) hs
theorem Seg.at {w : World} {b o : Nat} {vs : List Value} (h : Seg w b o vs) (j : Nat) {v : Value} (hj : vs[j]? = some v) : w.cell? ⟨b, o + j, none⟩ = some v := h j v hj
theorem Seg.far {w : World} {b o o' : Nat} {vs vs' : List Value} (h : Seg w b o vs) (hd : o + vs.length ≤ o' ∨ o' + vs'.length ≤ o) : Seg (w.setCells b o' vs') b o vs := fun j v hj => by
  have hj' := (List.getElem?_eq_some_iff.1 hj).1
  rw [setCells_out (by omega)]
  exact h j v hj
theorem Seg.put {w : World} {b o N : Nat} {vs : List Value} (h : Room w b N) (hN : o + vs.length ≤ N) : Seg (w.setCells b o vs) b o vs := fun j v hj => setCells_in h hN hj
theorem Seg.new (w : World) (vs : List Value) (t : TypeId) : Seg (w.alloc (.cells vs.toArray t)) w.heap.size 0 vs := fun j v hj => by
  obtain ⟨hj', rfl⟩ := List.getElem?_eq_some_iff.1 hj
  simp [go_sem, hj']
theorem Room.newN (w : World) (z : Array Value) {n : Nat} (hz : z.size = n) (t : TypeId) : Room (w.alloc (.cells z t)) w.heap.size n := by
  subst hz; exact Room.new w z t
theorem wpList_store_room {P : Program} {ops : Array Oper} {rest : List Oper} {op : Oper} {a : Act} {w : World} {Q : Exit → Act → World → Prop} (hgd : op.guard = none) (ty : TypeId) (x y : Operand) (ho : op.op = .store ty x y)
    (b o N : Nat) (vs : List Value) (hr : Room w b N) (hN : o + vs.length ≤ N) (hx : a.eval x = .pointer (some ⟨b, o, none⟩)) (hy : a.eval y = .agg vs.toArray) (hi : (P.info? ty).map (·.size) = some vs.length)
    (h1 : ∀ v ∈ vs, v.oneCell' = true)
    (h : ∀ W, W = w.setCells b o vs → wpList P ops Q rest (a.put op.dst undef) W) : wpList P ops Q (op :: rest) a w :=
  wpList_store_seg hgd ty x y ho b o vs hx hy hi (fun j hj => by obtain ⟨v, hv, -⟩ := hr (o + j) (by omega); rw [hv]; rfl) (fun j hj => by obtain ⟨v, -, hf⟩ := hr (o + j) (by omega); exact hf) h1 h
theorem wpList_at {P : Program} {ops : Array Oper} {rest : List Oper} {o : Oper} {a : Act} {w : World} {Q : Exit → Act → World → Prop} (h : wpList P ops Q (o :: rest) a w) : wpList P ops Q (o :: rest) a w := h
end Go.Proofs.Ytjigljpodkfchad
