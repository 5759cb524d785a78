/- zzItoa and the position tokens. -/
import Derived.Test.YtpjkipemalebcaaSw1
import Derived.Laws.BytesArg
set_option linter.unusedVariables false
set_option linter.unusedSimpArgs false
namespace Go.Proofs.Ytpjkipemalebcaa
open Go.RowKit
set_option maxRecDepth 100000
set_option maxHeartbeats 4000000
def digL : Nat → Nat → List Int → List Int
  | 0, _, l => l
  | f + 1, n, l => if n = 0 then l else digL f (n / 10) (((48 + n % 10 : Nat) : Int) :: l)
def itoaS (n : Nat) : ByteArray := if n = 0 then ⟨#[48]⟩ else strOfNums (digL 8 n [])
theorem digL_zero (f : Nat) (l : List Int) : digL f 0 l = l := by cases f <;> simp [digL]
structure It (w wr : World) (T n m p : Nat) (l : List Int) : Prop where
  len : l.length = 24 - p
  le : 16 ≤ p
  le' : p ≤ 24
  lt : m < 10 ^ (p - 16)
  sm : m < 100000000
  st : p = 24 → 0 < m
  dig : digL (p - 16) m l = digL 8 n []
  cell : ∀ j, j < 24 - p → wr.cell? ⟨T, p + j, none⟩ = some (.int .u8 (l.getD j 0))
  room : Room wr T 24
  bel : Below w.heap.size w wr
theorem It.step {w wr : World} {T n m p : Nat} {l : List Int} (h : It w wr T n m p l) (hm : 0 < m) (hT : w.heap.size ≤ T) : 16 < p ∧ It w (wr.setCell ⟨T, p - 1, none⟩ (.int .u8 (48 + (m : Int) % 10))) T n (m / 10) (p - 1) ((48 + (m : Int) % 10) :: l) := by
  have hk : 16 < p := by
    rcases Nat.lt_or_ge 16 p with q | q
    · exact q
    · have h1 := h.lt; rw [show p - 16 = 0 by omega] at h1; simp at h1; omega
  have h' := h.le'
  refine ⟨hk, by simp [h.len]; omega, by omega, by omega, ?_, by have := h.sm; omega, by omega, ?_, ?_, h.room.set _ _, h.bel.setCell (by exact hT) _⟩
  · have h1 := h.lt
    rw [show p - 16 = (p - 1 - 16) + 1 by omega, Nat.pow_succ] at h1
    exact Nat.div_lt_of_lt_mul (by omega)
  · rw [← h.dig, show p - 16 = (p - 1 - 16) + 1 by omega]
    simp [digL, show m ≠ 0 by omega]
  · intro j hj
    cases j with
    | zero =>
      obtain ⟨v, h1, h2⟩ := h.room (p - 1) (by omega)
      simpa using cs h1
    | succ j =>
      rw [co (by intro h; injection h; omega), show p - 1 + (j + 1) = p + j by omega]
      simpa using h.cell j (by omega)
theorem und51 : Try.prog.underlying 51 = some (.array 24 5) := by kernel_rfl
theorem sl51 (w : World) (b p : Nat) (hp : p < 24) : (Instr.sliceAt 51 (.pointer (some ⟨b, 0, none⟩)) (some (.int .i64 p)) none none).run Try.prog w = .ok (.slice (some ⟨b, p, none⟩) (24 - p) (24 - p)) w := by
  have h2 : (sizeOf 5).run Try.prog w = .ok 1 w := by kernel_rfl
  have h3 : ¬ (24 = p) := by omega
  simp [Instr.sliceAt, Instr.sureAddr, run_underlying und51, Instr.sliceBounds, run_sliceBound, h2, (by omega : (0 : Int) ≤ (p : Int)), (by omega : (p : Int) ≤ 24), h3, Addr.add]
  exact fun h => h.symm
theorem itoa20_c (n : Nat) (hn : n < 100000000) (w : World) : Calls Try.prog 20 #[.int .i64 n] w (Gives (.string (itoaS n)) w) := by
  by_cases h0 : n = 0
  · subst h0
    go_enter Try.func20, Try.ntmps20
    go_wp2
    go_ret
    exact ⟨by simp [itoaS], Below.refl _ _⟩
  · have e : itoaS n = strOfNums (digL 8 n []) := by unfold itoaS; rw [if_neg h0]
    rw [e]
    clear e
    go_enter Try.func20, Try.ntmps20
    go_upto_region 5 with fail
    refine wp_gen (fun W hW => ?_)
    have hR : Hid (Room W w.heap.size 24) := Lib.hid (by rw [hW]; exact Room.new _ _ _)
    have hB : Hid (Below w.heap.size w W) := Lib.hid (by rw [hW]; exact ba _ _)
    clear hW
    go_wp2_with fail
    go_loopw [5, 6] (fun i u wr => ∃ (m p : Nat) (l : List Int), It w wr w.heap.size n m p l ∧ i = .int .i64 p ∧ u = .int .u64 m) (fun _ u _ => (intOf u).toNat)
    case atStart => exact ⟨n, 24, [], ⟨rfl, by omega, by omega, hn, hn, (fun _ => by omega), rfl, fun j hj => by omega, hR.out, hB.out⟩, rfl, by go_num⟩
    case round =>
      obtain ⟨m, p, l, hI, rfl, rfl⟩ := hrel
      clear hR hB
      replace hI := Lib.hid hI
      have hp0 := hI.out.le
      have hp1 := hI.out.le'
      have hm8 := hI.out.sm
      by_cases hm : 0 < m
      · have hs := hI.out.step hm (Nat.le_refl _)
        obtain ⟨v, c1, c2⟩ := hI.out.room (p - 1) (by omega)
        have hk := hs.1
        replace hs := Lib.hid hs.2
        go_wp2_with fail
        go_roundw
        case rel => exact ⟨m / 10, p - 1, _, hs.out, by go_num, by go_num⟩
        case measure => simp [intOf]; omega
      · obtain rfl : m = 0 := by omega
        have hd := hI.out.dig
        rw [digL_zero] at hd
        have hc := hI.out.cell
        have hcv := Lib.hid (run_convert_bytes_arg (P := Try.prog) wr 23 5 Try.underlying23 Try.underlying5 w.heap.size p (24 - p) (24 - p) l hI.out.len hc 9 Try.underlying9)
        rw [hd] at hcv
        have hcv' := hcv.out
        clear hc hd
        have hp2 : p < 24 := by
          have := hI.out.st
          rcases Nat.lt_or_ge p 24 with q | q
          · exact q
          · exact absurd (this (by omega)) (by omega)
        have hsl := sl51 wr w.heap.size p hp2
        clear hcv
        go_wp2_with fail
        go_ret
        exact ⟨rfl, hI.out.bel⟩
abbrev posT (q : Nat) (ws : Int) : Tq := ⟨itoaS q ++ ⟨#[37]⟩, 34, ws⟩
theorem digL_len : ∀ (f n : Nat) (l : List Int), (digL f n l).length ≤ f + l.length
  | 0, n, l => by simp [digL]
  | f + 1, n, l => by
    unfold digL
    split
    · omega
    · have := digL_len f (n / 10) (((48 + n % 10 : Nat) : Int) :: l)
      simp at this ⊢; omega
theorem itoaS_size (n : Nat) : (itoaS n).size ≤ 8 := by
  unfold itoaS
  split
  · decide
  · rw [strOfNums_size]; have := digL_len 8 n []; simpa using this
theorem pos17_c (q : Nat) (hq : q < 100000000) (ws : Int) (w : World) : Calls Try.prog 17 #[.int .i64 q, .int .u8 ws] w (Gives (posT q ws).val w) := by
  go_enter Try.func17, Try.ntmps17
  have C := Lib.hid (itoa20_c q hq)
  have hsz := itoaS_size q
  go_upto_region 1 with fail
  refine wp_gen (fun W hW => ?_)
  have hR : Hid (Room W w.heap.size 7) := Lib.hid (by rw [hW]; exact Room.new _ _ _)
  have hB : Hid (Below w.heap.size w W) := Lib.hid (by rw [hW]; exact ba _ _)
  clear hW
  have X : ∀ w1, Below W.heap.size W w1 → Room w1 w.heap.size 7 ∧ Below w.heap.size w w1 := fun w1 h => ⟨hR.out.after h, hB.out.trans (h.mono hB.out.size)⟩
  replace X := Lib.hid X
  clear hR hB
  go_wp2_with (go_at_call 20; (with_reducible refine (C.out _).mono ?_); rintro e w1 ⟨rfl, hb⟩; replace X := Lib.hid (X.out w1 hb); clear hb; have R := Lib.hid X.out.1; obtain ⟨v0, c0, f0⟩ := R.out 0 (by omega); obtain ⟨v1, c1, f1⟩ := R.out 1 (by omega); obtain ⟨v2, c2, f2⟩ := R.out 2 (by omega); obtain ⟨v3, c3, f3⟩ := R.out 3 (by omega); obtain ⟨v4, c4, f4⟩ := R.out 4 (by omega); obtain ⟨v5, c5, f5⟩ := R.out 5 (by omega); obtain ⟨v6, c6, f6⟩ := R.out 6 (by omega))
  refine bodyPost_ret (v := (posT q ws).val) (by simp [results, Try.results17, go_sem, *]) rfl ⟨rfl, ?_⟩
  exact (((((((X.out.2.setCell (by simp) _).setCell (by simp) _).setCell (by simp) _).setCell (by simp) _).setCell (by simp) _).setCell (by simp) _).setCell (by simp) _)
end Go.Proofs.Ytpjkipemalebcaa
