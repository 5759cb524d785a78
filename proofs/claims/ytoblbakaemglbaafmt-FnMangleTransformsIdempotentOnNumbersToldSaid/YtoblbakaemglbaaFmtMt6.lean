/- FnMangleTransformsIdempotentOnNumbers: what mangleTransforms makes of a state, as plain functions. -/
import Derived.Test.YtoblbakaemglbaaFmtMt5
import Derived.Test.YtoblbakaemglbaaFmtRI
set_option linter.unusedVariables false
set_option linter.unusedSimpArgs false
namespace Go.Proofs.YtoblbakaemglbaaFmt
open Go.RowKit
def Low (low : ByteArray → ByteArray) (w : World) : Prop := ∀ s w', s.size ≤ 1048576 → Below w.heap.size w w' → Calls Tryf.prog 14 #[.string s] w' (fun e w2 => e = .returned (.string (low s)) ∧ Below w'.heap.size w' w2)
theorem Low.after {low : ByteArray → ByteArray} {w w' : World} (h : Low low w) (hb : Below w.heap.size w w') : Low low w' := fun s w2 hs h2 => h s w2 hs (hb.trans (h2.mono hb.size))
def setW (G : Nat → Tq) (i : Nat) (v : Int) : Nat → Tq := fun j => if j = i then ⟨(G i).tx, (G i).kd, v⟩ else G j
def trm (G : Nat → Tq) (o n : Nat) : Nat → Tq := setW (setW G o (bits .and .u8 (G o).ws 254)) (o + n - 1) (bits .and .u8 ((setW G o (bits .and .u8 (G o).ws 254)) (o + n - 1)).ws 253)
theorem MS.lt {w : World} {T C A N o n : Nat} {nm : ByteArray} {G : Nat → Tq} (h : MS w T C A N nm G o n) : T < w.heap.size ∧ C < w.heap.size ∧ A < w.heap.size := ⟨block_lt_of_cell (h.tok 0 _ rfl), block_lt_of_cell h.ch, h.blk.lt⟩
/-- the name, the tokens, where the children begin, how many there are -/
structure St where
  nm : ByteArray
  G : Nat → Tq
  o : Nat
  n : Nat
def arm (b : Bool) (k : Nat) (s : St) : St :=
  if k = 0 then (if s.n = 11 then (if (isZ (s.G (s.o + 2)) && isZ (s.G (s.o + 4)) && isZ (s.G (s.o + 8)) && isZ (s.G (s.o + 10))) = true then (if same (s.G s.o) (s.G (s.o + 6)) = true then ⟨⟨#[115, 99, 97, 108, 101]⟩, s.G, s.o, 1⟩ else if isO (s.G (s.o + 6)) = true then ⟨⟨#[115, 99, 97, 108, 101, 88]⟩, s.G, s.o, 1⟩ else if isO (s.G s.o) = true then ⟨⟨#[115, 99, 97, 108, 101, 89]⟩, s.G, s.o + 6, 1⟩ else ⟨⟨#[115, 99, 97, 108, 101]⟩, fun j => if j = s.o + 2 then s.G (s.o + 6) else s.G j, s.o, 3⟩) else s) else s)
  else if k = 1 then (if s.n = 3 then (if isZ (s.G (s.o + 2)) = true then ⟨s.nm, s.G, s.o, 1⟩ else if isZ (s.G s.o) = true then ⟨⟨#[116, 114, 97, 110, 115, 108, 97, 116, 101, 89]⟩, s.G, s.o + 2, 1⟩ else s) else s)
  else if k = 2 then (if s.n = 1 then ⟨⟨#[116, 114, 97, 110, 115, 108, 97, 116, 101]⟩, s.G, s.o, s.n⟩ else s)
  else if k = 4 then (if s.n = 3 then (if same (s.G s.o) (s.G (s.o + 2)) = true then ⟨s.nm, s.G, s.o, 1⟩ else if isO (s.G (s.o + 2)) = true then ⟨⟨#[115, 99, 97, 108, 101, 88]⟩, s.G, s.o, 1⟩ else if isO (s.G s.o) = true then ⟨⟨#[115, 99, 97, 108, 101, 89]⟩, s.G, s.o + 2, 1⟩ else s) else s)
  else if k = 8 then (if s.n = 1 then ⟨⟨#[114, 111, 116, 97, 116, 101]⟩, s.G, s.o, s.n⟩ else s)
  else if k = 9 then (if s.n = 3 then (if isZ (s.G (s.o + 2)) = true then ⟨s.nm, s.G, s.o, 1⟩ else s) else s)
  else if k = 10 then (if s.n = 1 then ⟨⟨#[115, 107, 101, 119]⟩, s.G, s.o, s.n⟩ else s)
  else if k = 12 then (if s.n = 31 then (if b = true then (if (isO (s.G s.o) && isO (s.G (s.o + 10))) = true then ⟨⟨#[115, 99, 97, 108, 101, 90]⟩, s.G, s.o + 20, 1⟩ else ⟨⟨#[115, 99, 97, 108, 101, 51, 100]⟩, fun j => if j = s.o + 2 then s.G (s.o + 10) else if j = s.o + 3 then s.G (s.o + 11) else if j = s.o + 4 then s.G (s.o + 20) else s.G j, s.o, 5⟩) else s) else s)
  else if k = 13 then (if s.n = 5 then (if (isZ (s.G s.o) && isZ (s.G (s.o + 2))) = true then ⟨⟨#[116, 114, 97, 110, 115, 108, 97, 116, 101, 90]⟩, s.G, s.o + 4, 1⟩ else s) else s)
  else if k = 15 then (if s.n = 5 then (if (isO (s.G s.o) && isO (s.G (s.o + 2))) = true then ⟨⟨#[115, 99, 97, 108, 101, 90]⟩, s.G, s.o + 4, 1⟩ else s) else s)
  else if k = 17 then (if s.n = 7 then (if (isO (s.G s.o) && isZ (s.G (s.o + 2)) && isZ (s.G (s.o + 4))) = true then ⟨⟨#[114, 111, 116, 97, 116, 101, 88]⟩, s.G, s.o + 6, 1⟩ else if (isZ (s.G s.o) && isO (s.G (s.o + 2)) && isZ (s.G (s.o + 4))) = true then ⟨⟨#[114, 111, 116, 97, 116, 101, 89]⟩, s.G, s.o + 6, 1⟩ else s) else s)
  else s
def trim (s : St) : St := ⟨s.nm, trm s.G s.o s.n, s.o, s.n⟩
abbrev MSs (w : World) (T C A N : Nat) (s : St) : Prop := MS w T C A N s.nm s.G s.o s.n
abbrev O3 (T C A : Nat) (w w' : World) : Prop := Only (fun b => b = T ∨ b = C ∨ b = A) w w'
/-- what mangleTransforms answers -/
def MtS (T C A N : Nat) (s : St) (w : World) (e : Ending) (w' : World) : Prop := e = .returned (.slice (some ⟨T, 0, none⟩) 1 1) ∧ MSs w' T C A N (trim s) ∧ O3 T C A w w'
theorem MS.name {w : World} {T C A N o n : Nat} {nm nm' : ByteArray} {G : Nat → Tq} (h : MS w T C A N nm G o n) : MS (w.setCell ⟨T, 1, none⟩ (.string nm')) T C A N nm' G o n := by
  refine ⟨fun j v hj => ?_, h.rt.setA _ _, by rw [co (by intro q; injection q with q1; exact h.tc q1)]; exact h.ch, h.rc.setA _ _, fun j hj i v hi => by rw [co (by intro q; injection q with q1; exact h.ta q1)]; exact h.arr j hj i v hi, h.ra.setA _ _, h.blk.set _ _, h.tc, h.ta, h.ca, h.le⟩
  match j, hj with
  | 0, hj => cases hj; rw [co (by simp)]; exact h.tok 0 _ rfl
  | 1, hj => cases hj; exact cs (by simpa using h.tok 1 _ rfl)
  | 2, hj => cases hj; rw [co (by simp)]; exact h.tok 2 _ rfl
  | 3, hj => cases hj; rw [co (by simp)]; exact h.tok 3 _ rfl
  | 4, hj => cases hj; rw [co (by simp)]; exact h.tok 4 _ rfl
  | 5, hj => cases hj; rw [co (by simp)]; exact h.tok 5 _ rfl
  | 6, hj => cases hj; rw [co (by simp)]; exact h.tok 6 _ rfl
theorem MS.kids {w : World} {T C A N o n o' n' : Nat} {nm : ByteArray} {G : Nat → Tq} (h : MS w T C A N nm G o n) (hle : o' + n' ≤ N) : MS (w.setCell ⟨C, 0, none⟩ (.slice (some ⟨A, o' * 7, none⟩) n' (N - o' : Nat))) T C A N nm G o' n' :=
  ⟨fun j v hj => by rw [co (by intro q; injection q with q1; exact h.tc q1.symm)]; exact h.tok j v hj, h.rt.setA _ _, cs h.ch, h.rc.setA _ _, fun j hj i v hi => by rw [co (by intro q; injection q with q1; exact h.ca q1)]; exact h.arr j hj i v hi, h.ra.setA _ _, h.blk.set _ _, h.tc, h.ta, h.ca, hle⟩
theorem MS.setw {w : World} {T C A N o n i : Nat} {v : Int} {nm : ByteArray} {G : Nat → Tq} (h : MS w T C A N nm G o n) (hi : i < N) : MS (w.setCell ⟨A, i * 7 + 6, none⟩ (.int .u8 v)) T C A N nm (setW G i v) o n := by
  refine ⟨fun j v hj => by rw [co (by intro q; injection q with q1; exact h.ta q1.symm)]; exact h.tok j v hj, h.rt.setA _ _, by rw [co (by intro q; injection q with q1; exact h.ca q1.symm)]; exact h.ch, h.rc.setA _ _, fun j hj l u hl => ?_, h.ra.setA _ _, h.blk.set _ _, h.tc, h.ta, h.ca, h.le⟩
  have hl7 : l < 7 := (List.getElem?_eq_some_iff.1 hl).1
  by_cases e : j = i
  · subst e
    unfold setW at hl
    rw [if_pos rfl] at hl
    by_cases e6 : l = 6
    · subst e6
      cases hl
      exact cs (h.arr j hj 6 _ rfl)
    · rw [co (by intro q; injection q; omega)]
      refine h.arr j hj l u ?_
      match l, e6, hl7, hl with
      | 0, _, _, hl => exact hl
      | 1, _, _, hl => exact hl
      | 2, _, _, hl => exact hl
      | 3, _, _, hl => exact hl
      | 4, _, _, hl => exact hl
      | 5, _, _, hl => exact hl
      | l + 6, e6, hl7, _ => exfalso; omega
  · unfold setW at hl
    rw [if_neg e] at hl
    rw [co (by intro q; injection q; omega)]
    exact h.arr j hj l u hl
theorem und27 : Tryf.prog.underlying 27 = some (.slice (Tryf.prog.elem 27)) := by kernel_rfl
theorem sz27 (w : World) : (sizeOf (Tryf.prog.elem 27)).run Tryf.prog w = .ok 7 w := by
  have e : Tryf.prog.elem 27 = 79 := by kernel_rfl
  have h : (sizeOf 79).run Tryf.prog w = .ok 7 w := by kernel_rfl
  rw [e]; exact h
theorem sl_h (A q len cap h : Nat) (hh : h ≤ cap) (W : World) : (Instr.sliceAt 27 (.slice (some ⟨A, q, none⟩) len cap) none (some (.int .i64 (h : Int))) none).run Tryf.prog W = .ok (.slice (some ⟨A, q, none⟩) h cap) W := by
  rw [run_sliceAt_slice W 27 _ _ _ _ und27, run_slice_h W 27 _ _ _ und27 .i64 _ (by omega) (by omega), sz27]
  simp [Result.andThen, sliced, Addr.add]
theorem addN (A q n : Nat) : (⟨A, q, none⟩ : Addr).add n = ⟨A, q + n, none⟩ := by unfold Addr.add; split <;> simp_all
theorem sl_l (A q len cap l : Nat) (hl : l ≤ len) (hlc : l < cap) (W : World) : (Instr.sliceAt 27 (.slice (some ⟨A, q, none⟩) len cap) (some (.int .i64 (l : Int))) none none).run Tryf.prog W = .ok (.slice (some ⟨A, q + l * 7, none⟩) (len - l) (cap - l)) W := by
  rw [run_sliceAt_slice W 27 _ _ _ _ und27, run_slice_l W 27 _ _ _ und27 .i64 _ (by omega) (by omega), sz27]
  have : ¬ cap = l := by omega
  simp [Result.andThen, sliced, addN, this]
theorem sl_lh (A q len cap l h : Nat) (hl : l ≤ h) (hh : h ≤ cap) (hlc : l < cap) (W : World) : (Instr.sliceAt 27 (.slice (some ⟨A, q, none⟩) len cap) (some (.int .i64 (l : Int))) (some (.int .i64 (h : Int))) none).run Tryf.prog W = .ok (.slice (some ⟨A, q + l * 7, none⟩) (h - l) (cap - l)) W := by
  rw [run_sliceAt_slice W 27 _ _ _ _ und27, run_slice_lh W 27 _ _ _ und27 .i64 .i64 _ _ (by omega) (by omega) (by omega), sz27]
  have : ¬ cap = l := by omega
  simp [Result.andThen, sliced, addN, this]
end Go.Proofs.YtoblbakaemglbaaFmt
