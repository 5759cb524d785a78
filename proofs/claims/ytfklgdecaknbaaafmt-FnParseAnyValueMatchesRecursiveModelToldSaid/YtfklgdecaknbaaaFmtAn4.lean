/- Copies, positions, counts; the law's walk. -/
import Derived.Test.YtfklgdecaknbaaaFmtAn3
import Derived.Lib.SliceRun
set_option linter.unusedVariables false
set_option linter.unusedSimpArgs false
namespace Go.Proofs.YtfklgdecaknbaaaFmt
open Go.RowKit
def SmallB (w : World) (N : Nat) (e : Ending) (w' : World) : Prop := ∃ b : Bool, e = .returned (.bool b) ∧ (b = true → N ≤ 1048576) ∧ w = w'
theorem bytes4_c (A : Option Addr) (n c : Nat) (i : Int) (w : World) (hn : n ≤ maxLen) : Calls Tryf.prog 4 #[.slice A n c, .int .i64 i] w (SmallB w n) := by
  unfold maxLen at hn
  go_enter Tryf.func4, Tryf.ntmps4
  go_wp2_with fail
  all_goals (go_ret; exact ⟨_, rfl, (fun h => by first | exact absurd h (by decide) | omega), rfl⟩)
/-- the first k cells of the row at T are filled -/
structure FillR (val : Nat → Value) (w : World) (T n k : Nat) (wr : World) : Prop where
  below : Below T w wr
  size : T < wr.heap.size
  row : ∀ i, i < k → wr.cell? ⟨T, i, none⟩ = some (val i)
  room : Room wr T n
theorem FillR.step {val : Nat → Value} {w wr : World} {T n k : Nat} (h : FillR val w T n k wr) (hk : k < n) : FillR val w T n (k + 1) (wr.setCell ⟨T, k, none⟩ (val k)) :=
  ⟨h.below.setCell (Nat.le_refl _) _, by simpa [World.setCell] using h.size, fun i hi => by
    by_cases e : i = k
    · subst e; obtain ⟨v, h1, h2⟩ := h.room i hk; exact cs h1
    · rw [co (by intro h; injection h; omega)]; exact h.row i (by omega), h.room.set _ _⟩
theorem own_add (T m : Nat) : (⟨T, 0, none⟩ : Addr).add m = ⟨T, m, none⟩ := by
  unfold Addr.add
  by_cases h : m = 0
  · subst h; rfl
  · simp [h]
def RowV (val : Nat → Value) (w : World) (A : Option Addr) (n : Nat) : Prop := ∀ i, i < n → ∃ x, A = some x ∧ w.cell? (x.add i) = some (val i)
theorem RowV.after {val : Nat → Value} {w w' : World} {A : Option Addr} {n : Nat} (h : RowV val w A n) (hb : Below w.heap.size w w') : RowV val w' A n := fun i hi => by
  obtain ⟨x, e, hc⟩ := h i hi
  exact ⟨x, e, ac hb hc⟩
theorem FillR.rowV {val : Nat → Value} {w wr : World} {T n : Nat} (h : FillR val w T n n wr) : RowV val wr (some ⟨T, 0, none⟩) n := fun i hi => ⟨_, rfl, by rw [own_add]; exact h.row i hi⟩
/-- a slice of one-cell elements that was cloned -/
def CloneR (val : Nat → Value) (w : World) (A : Option Addr) (n : Nat) (e : Ending) (w' : World) : Prop := ∃ A', e = .returned (.slice A' n n) ∧ (A' = none ↔ A = none) ∧ (∀ x, A' = some x → ∃ T, x = ⟨T, 0, none⟩ ∧ w.heap.size ≤ T) ∧ RowV val w' A' n ∧ Below w.heap.size w w'
set_option maxRecDepth 100000 in
theorem clone5_c (A : Option Addr) (n c : Nat) (f : Nat → Int) (w : World) (hn : n ≤ 1048576) (hnil : A = none → n = 0 ∧ c = 0) (h : RowV (fun i => Value.int .u8 (f i)) w A n) : Calls Tryf.prog 5 #[.slice A n c] w (CloneR (fun i => Value.int .u8 (f i)) w A n) := by
  cases A with
  | none =>
    obtain ⟨rfl, rfl⟩ := hnil rfl
    have hq := fun W => Lib.run_eql_slice_nil (P := Tryf.prog) W 22 5 none 0 0 0 0 Tryf.underlying22
    go_enter Tryf.func5, Tryf.ntmps5
    go_wp2
    go_ret
    exact ⟨none, rfl, Iff.rfl, (fun x h => by cases h), fun i hi => absurd hi (by omega), Below.refl _ _⟩
  | some y =>
    obtain ⟨z, hmk⟩ := make_any (b := 1) Tryf.underlying22 (show (Tryf.prog.info? 5).map (fun i => (i.zero.isSome, i.size, i.bytes)) = some (true, 1, 1) by kernel_rfl) n hn (by omega)
    have hq := fun W => Lib.run_eql_slice_nil (P := Tryf.prog) W 22 5 (some y) n c 0 0 Tryf.underlying22
    have H := Lib.hid h
    clear h hnil
    simp only [Nat.mul_one] at hmk
    go_enter Tryf.func5, Tryf.ntmps5
    go_wp2
    have H0 : FillR (fun i => Value.int .u8 (f i)) w w.heap.size n 0 (w.alloc (.cells (madeCells z n) 5)) := ⟨ba _ _, by simp, fun i hi => by omega, Room.made _ _ _ _⟩
    clear hmk hq
    go_loopw [4] (fun i wr => ∃ k : Nat, k ≤ n ∧ i = .int .i64 k ∧ FillR (fun i => Value.int .u8 (f i)) w w.heap.size n k wr) (fun i _ => n - (intOf i).toNat)
    case atStart => exact ⟨0, by omega, rfl, H0⟩
    case round =>
      obtain ⟨k, hk, rfl, HF⟩ := hrel
      clear H0
      by_cases hlt : k < n
      · obtain ⟨x, hx, d0⟩ := (H.out.after HF.below) k hlt
        cases hx
        obtain ⟨v0, c0, f0⟩ := HF.room k (by omega)
        have i0 : (0 : Int) ≤ k := by omega
        have i1 : (k : Int) < n := by omega
        have HS := Lib.hid (HF.step hlt)
        clear HF
        go_wp2
        go_roundw
        case rel => exact ⟨k + 1, by omega, by go_num, HS.out⟩
        case measure => simp [intOf]; omega
      · obtain rfl : k = n := by omega
        go_wp2
        go_ret
        exact ⟨_, rfl, by simp, (fun x h => by cases h; exact ⟨_, rfl, Nat.le_refl _⟩), HF.rowV, HF.below⟩

theorem count6_c (A : Option Addr) (n c i : Nat) (K : Nat → Int) (w : World) (hn : n ≤ 1048576) (hi : i ≤ n) (h : Row .u8 w A n K) :
    Calls Tryf.prog 6 #[.slice A n c, .int .i64 i] w fun e w' => e = .returned (.int .i64 ((Rn (cl n K) n i [] : Nat) - (i : Int))) ∧ Below w.heap.size w w' := by
  have C := Lib.hid (skip11_c A n c K hn (n - i) i 0 false w (Nat.le_refl _) hi h)
  unfold SkipB at C
  have e := (same_end (cl_eof n K) (n - i) i (Nat.le_refl _) hi).2 0
  have hle := Sn_le (n := n) (K := K) hi 0 false
  have hge := Sn_ge (cls := cl n K) (n := n) i 0 false
  rw [e]
  revert C hle hge
  generalize Sn (cl n K) n i 0 false = r
  obtain ⟨r1, r2⟩ := r
  intro C hle hge
  simp only at hle hge
  clear h e
  go_enter Tryf.func6, Tryf.ntmps6
  go_wp2_with (go_at_call 11; (with_reducible refine C.out.mono ?_); rintro e w1 ⟨rfl, hb1⟩; replace hb1 := Lib.hid hb1)
  go_ret
  exact ⟨by first | rfl | simp, hb1.out⟩
def posS (i : Nat) : Int := 3 * (i : Int) + 1
structure PosR (n : Nat) (w : World) (k : Nat) (wr : World) : Prop where
  below : Below w.heap.size w wr
  size : w.heap.size + 1 < wr.heap.size
  r1 : ∀ i, i < k → wr.cell? ⟨w.heap.size, i, none⟩ = some (.int .i32 (posS i))
  r2 : ∀ i, i < k → wr.cell? ⟨w.heap.size + 1, i, none⟩ = some (.int .i32 1)
  m1 : Room wr w.heap.size n
  m2 : Room wr (w.heap.size + 1) n
theorem PosR.step {n : Nat} {w : World} {k : Nat} {wr : World} (h : PosR n w k wr) (hk : k < n) : PosR n w (k + 1) ((wr.setCell ⟨w.heap.size, k, none⟩ (.int .i32 (posS k))).setCell ⟨w.heap.size + 1, k, none⟩ (.int .i32 1)) := by
  obtain ⟨v1, c1, f1⟩ := h.m1 k hk
  obtain ⟨v2, c2, f2⟩ := h.m2 k hk
  refine ⟨(h.below.setCell (Nat.le_refl _) _).setCell (by simp) _, by simpa [World.setCell] using h.size, fun i hi => ?_, fun i hi => ?_, (h.m1.set _ _).setA _ _, (h.m2.setA _ _).set _ _⟩
  · rw [co (by intro e; injection e; omega)]
    by_cases e : i = k
    · subst e; exact cs c1
    · rw [co (by intro e'; injection e'; omega)]; exact h.r1 i (by omega)
  · by_cases e : i = k
    · subst e; exact cs (u := v2) (by rw [co (by intro e; injection e; omega)]; exact c2)
    · rw [co (by intro e'; injection e'; omega), co (by intro e'; injection e'; omega)]; exact h.r2 i (by omega)
def PosB (n : Nat) (w : World) (e : Ending) (w' : World) : Prop := ∃ A1 A2, e = .returned (.tuple #[.slice A1 n n, .slice A2 n n]) ∧ Row .i32 w' A1 n posS ∧ Row .i32 w' A2 n (fun _ => 1) ∧ Below w.heap.size w w'
set_option maxRecDepth 100000 in
theorem pos7_c (n : Nat) (w : World) (hn : n ≤ 65536) : Calls Tryf.prog 7 #[.int .i64 n] w (PosB n w) := by
  obtain ⟨z, hmk⟩ := make_any (b := 4) Tryf.underlying26 (show (Tryf.prog.info? 21).map (fun i => (i.zero.isSome, i.size, i.bytes)) = some (true, 1, 4) by kernel_rfl) n (by omega) (by omega)
  simp only [Nat.mul_one] at hmk
  go_enter Tryf.func7, Tryf.ntmps7
  go_wp2
  have H0 : PosR n w 0 ((w.alloc (.cells (madeCells z n) 21)).alloc (.cells (madeCells z n) 21)) := by
    refine ⟨(ba _ _).alloc (by simp) _, by simp, fun i hi => by omega, fun i hi => by omega, (Room.made w z n 21).after (ba _ _), ?_⟩
    have := Room.made (w.alloc (.cells (madeCells z n) 21)) z n 21
    simpa using this
  clear hmk
  go_loopw [6] (fun i wr => ∃ k : Nat, k ≤ n ∧ i = .int .i64 k ∧ PosR n w k wr) (fun i _ => n - (intOf i).toNat)
  case atStart => exact ⟨0, by omega, rfl, H0⟩
  case round =>
    obtain ⟨k, hk, rfl, HF⟩ := hrel
    clear H0
    by_cases hlt : k < n
    · obtain ⟨v1, c1, f1⟩ := HF.m1 k hlt
      obtain ⟨v2, c2, f2⟩ := HF.m2 k hlt
      have i0 : (0 : Int) ≤ k := by omega
      have i1 : (k : Int) < n := by omega
      have HS := Lib.hid (HF.step hlt)
      unfold posS at HS
      clear HF
      go_wp2
      go_roundw
      case rel => exact ⟨k + 1, by omega, by go_num, HS.out⟩
      case measure => simp [intOf]; omega
    · obtain rfl : k = n := by omega
      go_wp2
      go_ret2
      exact ⟨_, _, rfl, (fun i hi => ⟨_, rfl, by rw [own_add]; exact HF.r1 i hi⟩), (fun i hi => ⟨_, rfl, by rw [own_add]; exact HF.r2 i hi⟩), HF.below⟩
def ZzB (b n i : Nat) (K : Nat → Int) (W : World) (e : Ending) (w' : World) : Prop :=
  e = .returned (.int .i64 ((Rn (cl n K) n i [] - i : Nat) : Int)) ∧ w'.cell? ⟨b, 42, none⟩ = some (.int .i64 (Rn (cl n K) n i [])) ∧ Kp (fun k => k = b) W w'
theorem zz9_c (b n i : Nat) (K : Nat → Int) (W : World) (h : Calls Tryf.prog 12 #[.pointer (some ⟨b, 0, none⟩)] W (AnyB b n i K W)) : Calls Tryf.prog 9 #[.pointer (some ⟨b, 0, none⟩)] W (ZzB b n i K W) := by
  have C := Lib.hid h
  clear h
  go_enter Tryf.func9, Tryf.ntmps9
  go_wp2_with (go_at_call 12; (with_reducible refine C.out.mono ?_); rintro e w1 ⟨A, c, rfl, hc, hk⟩; replace hc := Lib.hid hc; replace hk := Lib.hid hk)
  go_ret
  exact ⟨rfl, hc.out, hk.out⟩
theorem index10_c (b : Nat) (i : Int) (w : World) (a1 : w.cell? ⟨b, 42, none⟩ = some (.int .i64 i)) : Calls Tryf.prog 10 #[.pointer (some ⟨b, 0, none⟩)] w fun e w' => e = .returned (.int .i64 i) ∧ w = w' := by
  go_enter Tryf.func10, Tryf.ntmps10
  go_wp2
  go_ret
  exact ⟨rfl, rfl⟩
theorem Row.v {k : IntKind} {w : World} {A : Option Addr} {n : Nat} {f : Nat → Int} (h : Row k w A n f) : RowV (fun i => .int k (f i)) w A n := h
theorem RowV.r {k : IntKind} {w : World} {A : Option Addr} {n : Nat} {f : Nat → Int} (h : RowV (fun i => .int k (f i)) w A n) : Row k w A n f := h
end Go.Proofs.YtfklgdecaknbaaaFmt
