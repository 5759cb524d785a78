/- The recursive scan, walked. -/
import Derived.Test.YtfklgdecaknbaaaFmtAn1
set_option linter.unusedVariables false
set_option linter.unusedSimpArgs false
namespace Go.Proofs.YtfklgdecaknbaaaFmt
open Go.RowKit
/-- what the scan answers -/
def SkipB (n : Nat) (K : Nat → Int) (i : Nat) (v : Int) (b : Bool) (W : World) (e : Ending) (W' : World) : Prop :=
  e = .returned (.tuple #[.int .i64 (Sn (cl n K) n i v b).1, .bool (Sn (cl n K) n i v b).2]) ∧ Below W.heap.size W W'
def SkR (n : Nat) (K : Nat → Int) (i : Nat) (v : Int) (b : Bool) (W : World) (x : Value) (wr : World) : Prop :=
  ∃ j : Nat, x = .int .i64 j ∧ i ≤ j ∧ j ≤ n ∧ Hid (Sn (cl n K) n j v b = Sn (cl n K) n i v b) ∧ Below W.heap.size W wr
theorem Sn_eof {n : Nat} {K : Nat → Int} {j : Nat} (hj : j ≤ n) (v : Int) (b : Bool) (h : cl n K j = .eof) : Sn (cl n K) n j v b = (j, true) := by rw [Sn_step (cl_eof n K) hj, h]
theorem Sn_close {n : Nat} {K : Nat → Int} {j : Nat} (hj : j ≤ n) (v : Int) (b : Bool) {c : Int} (h : cl n K j = .close c) : Sn (cl n K) n j v b = (j, !(b && (c == v))) := by
  rw [Sn_step (cl_eof n K) hj, h]
  simp only
  by_cases hc : c = v
  · subst hc; cases b <;> simp
  · have : (c == v) = false := by simpa using hc
    simp [hc]
theorem Sn_semi {n : Nat} {K : Nat → Int} {j : Nat} (hj : j ≤ n) (v : Int) (b : Bool) (h : cl n K j = .semi) : Sn (cl n K) n j v b = if b then Sn (cl n K) n (j + 1) v b else (j, true) := by rw [Sn_step (cl_eof n K) hj, h]
theorem Sn_other {n : Nat} {K : Nat → Int} {j : Nat} (hj : j ≤ n) (v : Int) (b : Bool) (h : cl n K j = .other) : Sn (cl n K) n j v b = Sn (cl n K) n (j + 1) v b := by rw [Sn_step (cl_eof n K) hj, h]
theorem Sn_opn {n : Nat} {K : Nat → Int} {j : Nat} (hj : j ≤ n) (v : Int) (b : Bool) {c : Int} (h : cl n K j = .opn c) : Sn (cl n K) n j v b = if (Sn (cl n K) n (j + 1) c true).2 then ((Sn (cl n K) n (j + 1) c true).1, true) else Sn (cl n K) n ((Sn (cl n K) n (j + 1) c true).1 + 1) v b := by rw [Sn_step (cl_eof n K) hj, h]
set_option maxRecDepth 100000 in
set_option maxHeartbeats 4000000 in
theorem skip11_c (A : Option Addr) (n c : Nat) (K : Nat → Int) (hn : n ≤ 1048576) : ∀ (m i : Nat) (v : Int) (b : Bool) (W : World), n - i ≤ m → i ≤ n → Row .u8 W A n K →
    Calls Tryf.prog 11 #[.slice A n c, .int .i64 i, .int .u8 v, .bool b] W (SkipB n K i v b W) := by
  intro m
  induction m using Nat.strongRecOn with
  | ind m IH =>
  intro i v b W hm hi hrow
  have R := Lib.hid hrow
  have IHH := Lib.hid IH
  clear hrow IH
  go_enter Tryf.func11, Tryf.ntmps11
  go_wp2
  have H0 : SkR n K i v b W (.int .i64 i) W := ⟨i, rfl, Nat.le_refl _, hi, Lib.hid rfl, Below.refl _ _⟩
  go_loopw [1] (fun x wr => SkR n K i v b W x wr) (fun x _ => n - (intOf x).toNat)
  case atStart => exact H0
  case round =>
    clear H0
    obtain ⟨j, rfl, hij, hj, hS, hB⟩ := hrel
    have hB' := Lib.hid hB
    have Rj := Lib.hid (R.out.after hB)
    clear hB
    have C := Lib.hid (kind13_c A n c j K wr Rj.out hn hj)
    have hq0 : (j : Int) + 1 ≤ 9223372036854775807 := by omega
    by_cases k0 : atK n K j = 0
    · have hc := Lib.hid (show cl n K j = .eof by unfold cl; rw [k0]; rfl)
      rw [k0] at C
      clear k0
      go_wp2_with (go_at_call 13; (with_reducible refine C.out.mono ?_); rintro e w1 ⟨rfl, hb1⟩; replace hb1 := Lib.hid (hB'.out.trans (hb1.mono hB'.out.size)))
      go_ret2
      exact ⟨by rw [← hS.out, Sn_eof hj v b hc.out]; rfl, hb1.out⟩
    have n0 : (atK n K j == 0) = false := by simpa using k0
    by_cases k8 : atK n K j = 8
    · have hc := Lib.hid (show cl n K j = .close 8 by unfold cl; rw [k8]; rfl)
      rw [k8] at C
      clear k8
      clear n0
      have hv := Lib.hid (Sn_close hj v b hc.out)
      cases b with
      | false =>
        go_wp2_with (go_at_call 13; (with_reducible refine C.out.mono ?_); rintro e w1 ⟨rfl, hb1⟩; replace hb1 := Lib.hid (hB'.out.trans (hb1.mono hB'.out.size)))
        go_ret2
        exact ⟨by rw [← hS.out, hv.out]; simp, hb1.out⟩
      | true =>
        by_cases hvk : v = 8
        · subst hvk
          go_wp2_with (go_at_call 13; (with_reducible refine C.out.mono ?_); rintro e w1 ⟨rfl, hb1⟩; replace hb1 := Lib.hid (hB'.out.trans (hb1.mono hB'.out.size)))
          go_ret2
          exact ⟨by rw [← hS.out, hv.out]; simp, hb1.out⟩
        · have hvb : ((8 : Int) == v) = false := by simpa using fun h => hvk h.symm
          clear hvk
          go_wp2_with (go_at_call 13; (with_reducible refine C.out.mono ?_); rintro e w1 ⟨rfl, hb1⟩; replace hb1 := Lib.hid (hB'.out.trans (hb1.mono hB'.out.size)))
          go_ret2
          exact ⟨by rw [← hS.out, hv.out]; simp [hvb], hb1.out⟩
    have n8 : (atK n K j == 8) = false := by simpa using k8
    by_cases k7 : atK n K j = 7
    · have hc := Lib.hid (show cl n K j = .close 7 by unfold cl; rw [k7]; rfl)
      rw [k7] at C
      clear k7
      clear n0 n8
      have hv := Lib.hid (Sn_close hj v b hc.out)
      cases b with
      | false =>
        go_wp2_with (go_at_call 13; (with_reducible refine C.out.mono ?_); rintro e w1 ⟨rfl, hb1⟩; replace hb1 := Lib.hid (hB'.out.trans (hb1.mono hB'.out.size)))
        go_ret2
        exact ⟨by rw [← hS.out, hv.out]; simp, hb1.out⟩
      | true =>
        by_cases hvk : v = 7
        · subst hvk
          go_wp2_with (go_at_call 13; (with_reducible refine C.out.mono ?_); rintro e w1 ⟨rfl, hb1⟩; replace hb1 := Lib.hid (hB'.out.trans (hb1.mono hB'.out.size)))
          go_ret2
          exact ⟨by rw [← hS.out, hv.out]; simp, hb1.out⟩
        · have hvb : ((7 : Int) == v) = false := by simpa using fun h => hvk h.symm
          clear hvk
          go_wp2_with (go_at_call 13; (with_reducible refine C.out.mono ?_); rintro e w1 ⟨rfl, hb1⟩; replace hb1 := Lib.hid (hB'.out.trans (hb1.mono hB'.out.size)))
          go_ret2
          exact ⟨by rw [← hS.out, hv.out]; simp [hvb], hb1.out⟩
    have n7 : (atK n K j == 7) = false := by simpa using k7
    by_cases k6 : atK n K j = 6
    · have hc := Lib.hid (show cl n K j = .close 6 by unfold cl; rw [k6]; rfl)
      rw [k6] at C
      clear k6
      clear n0 n8 n7
      have hv := Lib.hid (Sn_close hj v b hc.out)
      cases b with
      | false =>
        go_wp2_with (go_at_call 13; (with_reducible refine C.out.mono ?_); rintro e w1 ⟨rfl, hb1⟩; replace hb1 := Lib.hid (hB'.out.trans (hb1.mono hB'.out.size)))
        go_ret2
        exact ⟨by rw [← hS.out, hv.out]; simp, hb1.out⟩
      | true =>
        by_cases hvk : v = 6
        · subst hvk
          go_wp2_with (go_at_call 13; (with_reducible refine C.out.mono ?_); rintro e w1 ⟨rfl, hb1⟩; replace hb1 := Lib.hid (hB'.out.trans (hb1.mono hB'.out.size)))
          go_ret2
          exact ⟨by rw [← hS.out, hv.out]; simp, hb1.out⟩
        · have hvb : ((6 : Int) == v) = false := by simpa using fun h => hvk h.symm
          clear hvk
          go_wp2_with (go_at_call 13; (with_reducible refine C.out.mono ?_); rintro e w1 ⟨rfl, hb1⟩; replace hb1 := Lib.hid (hB'.out.trans (hb1.mono hB'.out.size)))
          go_ret2
          exact ⟨by rw [← hS.out, hv.out]; simp [hvb], hb1.out⟩
    have n6 : (atK n K j == 6) = false := by simpa using k6
    by_cases k35 : atK n K j = 35
    · have hc := Lib.hid (show cl n K j = .semi by unfold cl; rw [k35]; rfl)
      rw [k35] at C
      clear k35
      clear n0 n8 n7 n6
      have hv := Lib.hid (Sn_semi hj v b hc.out)
      have hlt := cl_lt (n := n) (K := K) (i := j) (by rw [hc.out]; simp)
      cases b with
      | false =>
        go_wp2_with (go_at_call 13; (with_reducible refine C.out.mono ?_); rintro e w1 ⟨rfl, hb1⟩; replace hb1 := Lib.hid (hB'.out.trans (hb1.mono hB'.out.size)))
        go_ret2
        exact ⟨by rw [← hS.out, hv.out]; rfl, hb1.out⟩
      | true =>
        have hz := Lib.hid (hv.out.symm.trans hS.out)
        go_wp2_with (go_at_call 13; (with_reducible refine C.out.mono ?_); rintro e w1 ⟨rfl, hb1⟩; replace hb1 := Lib.hid (hB'.out.trans (hb1.mono hB'.out.size)))
        exact ⟨⟨j + 1, by go_num, by omega, by omega, Lib.hid hz.out, hb1.out⟩, by simp [intOf]; omega⟩
    have n35 : (atK n K j == 35) = false := by simpa using k35
    by_cases k19 : atK n K j = 19
    · have hc := Lib.hid (show cl n K j = .semi by unfold cl; rw [k19]; rfl)
      rw [k19] at C
      clear k19
      clear n0 n8 n7 n6 n35
      have hv := Lib.hid (Sn_semi hj v b hc.out)
      have hlt := cl_lt (n := n) (K := K) (i := j) (by rw [hc.out]; simp)
      cases b with
      | false =>
        go_wp2_with (go_at_call 13; (with_reducible refine C.out.mono ?_); rintro e w1 ⟨rfl, hb1⟩; replace hb1 := Lib.hid (hB'.out.trans (hb1.mono hB'.out.size)))
        go_ret2
        exact ⟨by rw [← hS.out, hv.out]; rfl, hb1.out⟩
      | true =>
        have hz := Lib.hid (hv.out.symm.trans hS.out)
        go_wp2_with (go_at_call 13; (with_reducible refine C.out.mono ?_); rintro e w1 ⟨rfl, hb1⟩; replace hb1 := Lib.hid (hB'.out.trans (hb1.mono hB'.out.size)))
        exact ⟨⟨j + 1, by go_num, by omega, by omega, Lib.hid hz.out, hb1.out⟩, by simp [intOf]; omega⟩
    have n19 : (atK n K j == 19) = false := by simpa using k19
    by_cases k33 : atK n K j = 33
    · have hc := Lib.hid (show cl n K j = .opn 8 by unfold cl; rw [k33]; rfl)
      rw [k33] at C
      clear k33
      clear n0 n8 n7 n6 n35 n19
      have hv := Lib.hid (Sn_opn hj v b hc.out)
      have hlt := cl_lt (n := n) (K := K) (i := j) (by rw [hc.out]; simp)
      have D := Lib.hid (fun w1 (hb : Below W.heap.size W w1) => IHH.out (n - (j + 1)) (by omega) (j + 1) 8 true w1 (Nat.le_refl _) (by omega) (R.out.after hb))
      have hge := Sn_ge (cls := cl n K) (n := n) (j + 1) 8 true
      have hle := Sn_le (n := n) (K := K) (i := j + 1) (by omega) 8 true
      have hlt2 := Lib.hid (Sn_lt (n := n) (K := K) (i := j + 1) (by omega) (w := 8))
      unfold SkipB at D
      revert hv D hge hle hlt2
      generalize Sn (cl n K) n (j + 1) 8 true = r
      obtain ⟨r1, r2⟩ := r
      intro hv D hge hle hlt2
      simp only at hge hle
      push_cast at D
      cases r2 with
      | true =>
        go_wp2_with (first | (go_at_call 13; (with_reducible refine C.out.mono ?_); rintro e w1 ⟨rfl, hb1⟩; replace hb1 := Lib.hid (hB'.out.trans (hb1.mono hB'.out.size))) | (go_at_call 11; (with_reducible refine (D.out _ hb1.out).mono ?_); rintro e w2 ⟨rfl, hb2⟩; replace hb2 := Lib.hid (hb1.out.trans (hb2.mono hb1.out.size))))
        go_ret2
        exact ⟨by rw [← hS.out, hv.out]; rfl, hb2.out⟩
      | false =>
        have hr : r1 < n := hlt2.out rfl
        have hz := Lib.hid (hv.out.symm.trans hS.out)
        go_wp2_with (first | (go_at_call 13; (with_reducible refine C.out.mono ?_); rintro e w1 ⟨rfl, hb1⟩; replace hb1 := Lib.hid (hB'.out.trans (hb1.mono hB'.out.size))) | (go_at_call 11; (with_reducible refine (D.out _ hb1.out).mono ?_); rintro e w2 ⟨rfl, hb2⟩; replace hb2 := Lib.hid (hb1.out.trans (hb2.mono hb1.out.size))))
        exact ⟨⟨r1 + 1, by go_num, by omega, by omega, Lib.hid hz.out, hb2.out⟩, by simp [intOf]; omega⟩
    have n33 : (atK n K j == 33) = false := by simpa using k33
    by_cases k27 : atK n K j = 27
    · have hc := Lib.hid (show cl n K j = .opn 8 by unfold cl; rw [k27]; rfl)
      rw [k27] at C
      clear k27
      clear n0 n8 n7 n6 n35 n19 n33
      have hv := Lib.hid (Sn_opn hj v b hc.out)
      have hlt := cl_lt (n := n) (K := K) (i := j) (by rw [hc.out]; simp)
      have D := Lib.hid (fun w1 (hb : Below W.heap.size W w1) => IHH.out (n - (j + 1)) (by omega) (j + 1) 8 true w1 (Nat.le_refl _) (by omega) (R.out.after hb))
      have hge := Sn_ge (cls := cl n K) (n := n) (j + 1) 8 true
      have hle := Sn_le (n := n) (K := K) (i := j + 1) (by omega) 8 true
      have hlt2 := Lib.hid (Sn_lt (n := n) (K := K) (i := j + 1) (by omega) (w := 8))
      unfold SkipB at D
      revert hv D hge hle hlt2
      generalize Sn (cl n K) n (j + 1) 8 true = r
      obtain ⟨r1, r2⟩ := r
      intro hv D hge hle hlt2
      simp only at hge hle
      push_cast at D
      cases r2 with
      | true =>
        go_wp2_with (first | (go_at_call 13; (with_reducible refine C.out.mono ?_); rintro e w1 ⟨rfl, hb1⟩; replace hb1 := Lib.hid (hB'.out.trans (hb1.mono hB'.out.size))) | (go_at_call 11; (with_reducible refine (D.out _ hb1.out).mono ?_); rintro e w2 ⟨rfl, hb2⟩; replace hb2 := Lib.hid (hb1.out.trans (hb2.mono hb1.out.size))))
        go_ret2
        exact ⟨by rw [← hS.out, hv.out]; rfl, hb2.out⟩
      | false =>
        have hr : r1 < n := hlt2.out rfl
        have hz := Lib.hid (hv.out.symm.trans hS.out)
        go_wp2_with (first | (go_at_call 13; (with_reducible refine C.out.mono ?_); rintro e w1 ⟨rfl, hb1⟩; replace hb1 := Lib.hid (hB'.out.trans (hb1.mono hB'.out.size))) | (go_at_call 11; (with_reducible refine (D.out _ hb1.out).mono ?_); rintro e w2 ⟨rfl, hb2⟩; replace hb2 := Lib.hid (hb1.out.trans (hb2.mono hb1.out.size))))
        exact ⟨⟨r1 + 1, by go_num, by omega, by omega, Lib.hid hz.out, hb2.out⟩, by simp [intOf]; omega⟩
    have n27 : (atK n K j == 27) = false := by simpa using k27
    by_cases k32 : atK n K j = 32
    · have hc := Lib.hid (show cl n K j = .opn 7 by unfold cl; rw [k32]; rfl)
      rw [k32] at C
      clear k32
      clear n0 n8 n7 n6 n35 n19 n33 n27
      have hv := Lib.hid (Sn_opn hj v b hc.out)
      have hlt := cl_lt (n := n) (K := K) (i := j) (by rw [hc.out]; simp)
      have D := Lib.hid (fun w1 (hb : Below W.heap.size W w1) => IHH.out (n - (j + 1)) (by omega) (j + 1) 7 true w1 (Nat.le_refl _) (by omega) (R.out.after hb))
      have hge := Sn_ge (cls := cl n K) (n := n) (j + 1) 7 true
      have hle := Sn_le (n := n) (K := K) (i := j + 1) (by omega) 7 true
      have hlt2 := Lib.hid (Sn_lt (n := n) (K := K) (i := j + 1) (by omega) (w := 7))
      unfold SkipB at D
      revert hv D hge hle hlt2
      generalize Sn (cl n K) n (j + 1) 7 true = r
      obtain ⟨r1, r2⟩ := r
      intro hv D hge hle hlt2
      simp only at hge hle
      push_cast at D
      cases r2 with
      | true =>
        go_wp2_with (first | (go_at_call 13; (with_reducible refine C.out.mono ?_); rintro e w1 ⟨rfl, hb1⟩; replace hb1 := Lib.hid (hB'.out.trans (hb1.mono hB'.out.size))) | (go_at_call 11; (with_reducible refine (D.out _ hb1.out).mono ?_); rintro e w2 ⟨rfl, hb2⟩; replace hb2 := Lib.hid (hb1.out.trans (hb2.mono hb1.out.size))))
        go_ret2
        exact ⟨by rw [← hS.out, hv.out]; rfl, hb2.out⟩
      | false =>
        have hr : r1 < n := hlt2.out rfl
        have hz := Lib.hid (hv.out.symm.trans hS.out)
        go_wp2_with (first | (go_at_call 13; (with_reducible refine C.out.mono ?_); rintro e w1 ⟨rfl, hb1⟩; replace hb1 := Lib.hid (hB'.out.trans (hb1.mono hB'.out.size))) | (go_at_call 11; (with_reducible refine (D.out _ hb1.out).mono ?_); rintro e w2 ⟨rfl, hb2⟩; replace hb2 := Lib.hid (hb1.out.trans (hb2.mono hb1.out.size))))
        exact ⟨⟨r1 + 1, by go_num, by omega, by omega, Lib.hid hz.out, hb2.out⟩, by simp [intOf]; omega⟩
    have n32 : (atK n K j == 32) = false := by simpa using k32
    by_cases k31 : atK n K j = 31
    · have hc := Lib.hid (show cl n K j = .opn 6 by unfold cl; rw [k31]; rfl)
      rw [k31] at C
      clear k31
      clear n0 n8 n7 n6 n35 n19 n33 n27 n32
      have hv := Lib.hid (Sn_opn hj v b hc.out)
      have hlt := cl_lt (n := n) (K := K) (i := j) (by rw [hc.out]; simp)
      have D := Lib.hid (fun w1 (hb : Below W.heap.size W w1) => IHH.out (n - (j + 1)) (by omega) (j + 1) 6 true w1 (Nat.le_refl _) (by omega) (R.out.after hb))
      have hge := Sn_ge (cls := cl n K) (n := n) (j + 1) 6 true
      have hle := Sn_le (n := n) (K := K) (i := j + 1) (by omega) 6 true
      have hlt2 := Lib.hid (Sn_lt (n := n) (K := K) (i := j + 1) (by omega) (w := 6))
      unfold SkipB at D
      revert hv D hge hle hlt2
      generalize Sn (cl n K) n (j + 1) 6 true = r
      obtain ⟨r1, r2⟩ := r
      intro hv D hge hle hlt2
      simp only at hge hle
      push_cast at D
      cases r2 with
      | true =>
        go_wp2_with (first | (go_at_call 13; (with_reducible refine C.out.mono ?_); rintro e w1 ⟨rfl, hb1⟩; replace hb1 := Lib.hid (hB'.out.trans (hb1.mono hB'.out.size))) | (go_at_call 11; (with_reducible refine (D.out _ hb1.out).mono ?_); rintro e w2 ⟨rfl, hb2⟩; replace hb2 := Lib.hid (hb1.out.trans (hb2.mono hb1.out.size))))
        go_ret2
        exact ⟨by rw [← hS.out, hv.out]; rfl, hb2.out⟩
      | false =>
        have hr : r1 < n := hlt2.out rfl
        have hz := Lib.hid (hv.out.symm.trans hS.out)
        go_wp2_with (first | (go_at_call 13; (with_reducible refine C.out.mono ?_); rintro e w1 ⟨rfl, hb1⟩; replace hb1 := Lib.hid (hB'.out.trans (hb1.mono hB'.out.size))) | (go_at_call 11; (with_reducible refine (D.out _ hb1.out).mono ?_); rintro e w2 ⟨rfl, hb2⟩; replace hb2 := Lib.hid (hb1.out.trans (hb2.mono hb1.out.size))))
        exact ⟨⟨r1 + 1, by go_num, by omega, by omega, Lib.hid hz.out, hb2.out⟩, by simp [intOf]; omega⟩
    have n31 : (atK n K j == 31) = false := by simpa using k31
    have hc := Lib.hid (show cl n K j = .other by unfold cl clsK; simp [k0, k8, k7, k6, k35, k19, k33, k27, k32, k31])
    have hlt : j < n := cl_lt (K := K) (by rw [hc.out]; simp)
    clear k0 k8 k7 k6 k35 k19 k33 k27 k32 k31
    have hv := Lib.hid (Sn_other hj v b hc.out)
    have hz := Lib.hid (hv.out.symm.trans hS.out)
    revert C n0 n8 n7 n6 n35 n19 n33 n27 n32 n31
    generalize atK n K j = kk
    intro C n0 n8 n7 n6 n35 n19 n33 n27 n32 n31
    go_wp2_with (go_at_call 13; (with_reducible refine C.out.mono ?_); rintro e w1 ⟨rfl, hb1⟩; replace hb1 := Lib.hid (hB'.out.trans (hb1.mono hB'.out.size)))
    exact ⟨⟨j + 1, by go_num, by omega, by omega, Lib.hid hz.out, hb1.out⟩, by simp [intOf]; omega⟩
end Go.Proofs.YtfklgdecaknbaaaFmt
