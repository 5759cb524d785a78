/- scanMediaComparison: what it finds and what it takes. -/
import Derived.Test.YtpnfllnnbinbjaaScan
import Derived.WalkSpells
set_option linter.unusedVariables false
set_option linter.unusedSimpArgs false
namespace Go.Proofs.Ytpnfllnnbinbjaa
open Go.RowKit
abbrev or8 (a b : Int) : Int := bits BinOp.or IntKind.u8 a b
/-- is the second token an equals sign right behind the first? -/
def eq2 (n : Nat) (F : Nat → Tk) : Bool := decide (2 ≤ n) && ((F 1).kd == 18) && (or8 (and8 (F 0).ws 2) (and8 (F 1).ws 1) == 0)
/-- which comparison -/
def cv (n : Nat) (F : Nat → Tk) : Int :=
  if n = 0 then 0 else if (F 0).kd = 18 then 1 else if (F 0).kd = 21 then (if eq2 n F = true then 3 else 2) else if (F 0).kd = 20 then (if eq2 n F = true then 5 else 4) else 0
/-- how many tokens it takes -/
def cn (n : Nat) (F : Nat → Tk) : Nat :=
  if n = 0 then 0 else if (F 0).kd = 18 then 1 else if (F 0).kd = 21 then (if eq2 n F = true then 2 else 1) else if (F 0).kd = 20 then (if eq2 n F = true then 2 else 1) else 0
theorem cn_le (n : Nat) (F : Nat → Tk) : cn n F ≤ n := by
  have h : eq2 n F = true → 2 ≤ n := fun h => by unfold eq2 at h; simp at h; exact h.1.1
  unfold cn; split <;> (try split) <;> (try split) <;> (try split) <;> (try split) <;> simp_all <;> omega
def CmpP (T o n c : Nat) (cmp : Int) (m : Nat) (w : World) (e : Ending) (w' : World) : Prop :=
  ∃ A' q, e = .returned (.tuple #[.int .u8 cmp, .slice A' (n - m) (c - m)]) ∧ (m < n → A' = some ⟨T, o + m * 7, none⟩) ∧ (A' = none → c - m = 0) ∧ w' = w.drewN q
set_option maxRecDepth 100000 in
set_option maxHeartbeats 2000000 in
theorem cmp_nil (A : Option Addr) (T o c : Nat) (w : World) (hA : A = none → c = 0) (hm : c ≤ 9223372036854775807) :
    Calls Try.prog 24 #[.slice A 0 c] w (CmpP T o 0 c 0 0 w) := by
  have H := Lib.hid hA
  clear hA
  go_enter Try.func24, Try.ntmps24
  go_wp2
  go_ret2
  exact ⟨A, 0, rfl, (fun h => absurd h (by omega)), (fun h => by have := H.out h; omega), rfl⟩
set_option maxRecDepth 100000 in
set_option maxHeartbeats 2000000 in
theorem cmp_18 (T o n c : Nat) (F : Nat → Tk) (w : World) (hn : 0 < n) (hc : n ≤ c) (hm : c ≤ 9223372036854775807) (h : TokB w T o n F) (e : ((F 0).kd == 18) = true) :
    Calls Try.prog 24 #[.slice (some ⟨T, o, none⟩) n c] w (CmpP T o n c 1 1 w) := by
  obtain ⟨⟨-, -, -, -, -, k0, s0⟩, -⟩ := h 0 (by omega)
  simp only [Nat.zero_mul, Nat.one_mul, Nat.add_zero, Nat.reduceMul] at k0 s0
  clear h
  go_enter Try.func24, Try.ntmps24
  go_wp2
  go_quiet (fail)
  go_wp2
  all_goals (go_ret2; exact ⟨_, _, rfl, (fun h => by first | rfl | (exfalso; omega)), (fun h => by first | cases h | omega), rfl⟩)
set_option maxRecDepth 100000 in
set_option maxHeartbeats 2000000 in
theorem cmp_no (T o n c : Nat) (F : Nat → Tk) (w : World) (hn : 0 < n) (hc : n ≤ c) (hm : c ≤ 9223372036854775807) (h : TokB w T o n F) (e : ((F 0).kd == 18) = false) (e1 : ((F 0).kd == 21) = false) (e2 : ((F 0).kd == 20) = false) :
    Calls Try.prog 24 #[.slice (some ⟨T, o, none⟩) n c] w (CmpP T o n c 0 0 w) := by
  obtain ⟨⟨-, -, -, -, -, k0, s0⟩, -⟩ := h 0 (by omega)
  simp only [Nat.zero_mul, Nat.one_mul, Nat.add_zero, Nat.reduceMul] at k0 s0
  clear h
  go_enter Try.func24, Try.ntmps24
  go_wp2
  go_ret2
  exact ⟨_, 0, rfl, (fun h => by simp), (fun h => by cases h), rfl⟩
set_option maxRecDepth 100000 in
set_option maxHeartbeats 2000000 in
theorem cmp_lt_a (T o n c : Nat) (F : Nat → Tk) (w : World) (hn : 0 < n) (hc : n ≤ c) (hm : c ≤ 9223372036854775807) (h : TokB w T o n F) (e : ((F 0).kd == 18) = false) (e1 : ((F 0).kd == 21) = true) (h2 : n < 2) (d2 : decide ((2 : Int) ≤ (n : Int)) = false) :
    Calls Try.prog 24 #[.slice (some ⟨T, o, none⟩) n c] w (CmpP T o n c 2 1 w) := by
  obtain ⟨⟨-, -, -, -, -, k0, s0⟩, -⟩ := h 0 (by omega)
  simp only [Nat.zero_mul, Nat.one_mul, Nat.add_zero, Nat.reduceMul] at k0 s0
  clear h
  go_enter Try.func24, Try.ntmps24
  go_wp2
  go_quiet (fail)
  go_wp2
  go_quiet (fail)
  go_wp2
  all_goals (go_ret2; exact ⟨_, _, rfl, (fun h => by first | rfl | (exfalso; omega)), (fun h => by first | cases h | omega), by first | rfl | exact World.drewN_drewN _ _ _⟩)
set_option maxRecDepth 100000 in
set_option maxHeartbeats 2000000 in
theorem cmp_lt_b (T o n c : Nat) (F : Nat → Tk) (w : World) (hn : 2 ≤ n) (hc : n ≤ c) (hm : c ≤ 9223372036854775807) (h : TokB w T o n F) (e : ((F 0).kd == 18) = false) (e1 : ((F 0).kd == 21) = true) (d2 : decide ((2 : Int) ≤ (n : Int)) = true) (g : ((F 1).kd == 18) = false) :
    Calls Try.prog 24 #[.slice (some ⟨T, o, none⟩) n c] w (CmpP T o n c 2 1 w) := by
  obtain ⟨⟨-, -, -, -, -, k0, s0⟩, -⟩ := h 0 (by omega)
  simp only [Nat.zero_mul, Nat.one_mul, Nat.add_zero, Nat.reduceMul] at k0 s0
  obtain ⟨⟨-, -, -, -, -, k1, s1⟩, -⟩ := h 1 (by omega)
  simp only [Nat.zero_mul, Nat.one_mul, Nat.add_zero, Nat.reduceMul] at k1 s1
  clear h
  go_enter Try.func24, Try.ntmps24
  go_wp2
  go_quiet (fail)
  go_wp2
  go_quiet (fail)
  go_wp2
  all_goals (go_ret2; exact ⟨_, _, rfl, (fun h => by first | rfl | (exfalso; omega)), (fun h => by first | cases h | omega), by first | rfl | exact World.drewN_drewN _ _ _⟩)
set_option maxRecDepth 100000 in
set_option maxHeartbeats 2000000 in
theorem cmp_lt_c (T o n c : Nat) (F : Nat → Tk) (w : World) (hn : 2 ≤ n) (hc : n ≤ c) (hm : c ≤ 9223372036854775807) (h : TokB w T o n F) (e : ((F 0).kd == 18) = false) (e1 : ((F 0).kd == 21) = true) (d2 : decide ((2 : Int) ≤ (n : Int)) = true) (g : ((F 1).kd == 18) = true) (g1 : (or8 (and8 (F 0).ws 2) (and8 (F 1).ws 1) == 0) = false) :
    Calls Try.prog 24 #[.slice (some ⟨T, o, none⟩) n c] w (CmpP T o n c 2 1 w) := by
  obtain ⟨⟨-, -, -, -, -, k0, s0⟩, -⟩ := h 0 (by omega)
  simp only [Nat.zero_mul, Nat.one_mul, Nat.add_zero, Nat.reduceMul] at k0 s0
  obtain ⟨⟨-, -, -, -, -, k1, s1⟩, -⟩ := h 1 (by omega)
  simp only [Nat.zero_mul, Nat.one_mul, Nat.add_zero, Nat.reduceMul] at k1 s1
  clear h
  go_enter Try.func24, Try.ntmps24
  go_wp2
  go_quiet (fail)
  go_wp2
  go_quiet (fail)
  go_wp2
  all_goals (go_ret2; exact ⟨_, _, rfl, (fun h => by first | rfl | (exfalso; omega)), (fun h => by first | cases h | omega), by first | rfl | exact World.drewN_drewN _ _ _⟩)
set_option maxRecDepth 100000 in
set_option maxHeartbeats 2000000 in
theorem cmp_lt_d (T o n c : Nat) (F : Nat → Tk) (w : World) (hn : 2 ≤ n) (hc : n ≤ c) (hm : c ≤ 9223372036854775807) (h : TokB w T o n F) (e : ((F 0).kd == 18) = false) (e1 : ((F 0).kd == 21) = true) (d2 : decide ((2 : Int) ≤ (n : Int)) = true) (g : ((F 1).kd == 18) = true) (g1 : (or8 (and8 (F 0).ws 2) (and8 (F 1).ws 1) == 0) = true) :
    Calls Try.prog 24 #[.slice (some ⟨T, o, none⟩) n c] w (CmpP T o n c 3 2 w) := by
  obtain ⟨⟨-, -, -, -, -, k0, s0⟩, -⟩ := h 0 (by omega)
  simp only [Nat.zero_mul, Nat.one_mul, Nat.add_zero, Nat.reduceMul] at k0 s0
  obtain ⟨⟨-, -, -, -, -, k1, s1⟩, -⟩ := h 1 (by omega)
  simp only [Nat.zero_mul, Nat.one_mul, Nat.add_zero, Nat.reduceMul] at k1 s1
  clear h
  go_enter Try.func24, Try.ntmps24
  go_wp2
  go_quiet (fail)
  go_wp2
  go_quiet (fail)
  go_wp2
  all_goals (go_ret2; exact ⟨_, _, rfl, (fun h => by first | rfl | (exfalso; omega)), (fun h => by first | cases h | omega), by first | rfl | exact World.drewN_drewN _ _ _⟩)
set_option maxRecDepth 100000 in
set_option maxHeartbeats 2000000 in
theorem cmp_gt_a (T o n c : Nat) (F : Nat → Tk) (w : World) (hn : 0 < n) (hc : n ≤ c) (hm : c ≤ 9223372036854775807) (h : TokB w T o n F) (e : ((F 0).kd == 18) = false) (e1 : ((F 0).kd == 21) = false) (e2 : ((F 0).kd == 20) = true) (h2 : n < 2) (d2 : decide ((2 : Int) ≤ (n : Int)) = false) :
    Calls Try.prog 24 #[.slice (some ⟨T, o, none⟩) n c] w (CmpP T o n c 4 1 w) := by
  obtain ⟨⟨-, -, -, -, -, k0, s0⟩, -⟩ := h 0 (by omega)
  simp only [Nat.zero_mul, Nat.one_mul, Nat.add_zero, Nat.reduceMul] at k0 s0
  clear h
  go_enter Try.func24, Try.ntmps24
  go_wp2
  go_quiet (fail)
  go_wp2
  go_quiet (fail)
  go_wp2
  all_goals (go_ret2; exact ⟨_, _, rfl, (fun h => by first | rfl | (exfalso; omega)), (fun h => by first | cases h | omega), by first | rfl | exact World.drewN_drewN _ _ _⟩)
set_option maxRecDepth 100000 in
set_option maxHeartbeats 2000000 in
theorem cmp_gt_b (T o n c : Nat) (F : Nat → Tk) (w : World) (hn : 2 ≤ n) (hc : n ≤ c) (hm : c ≤ 9223372036854775807) (h : TokB w T o n F) (e : ((F 0).kd == 18) = false) (e1 : ((F 0).kd == 21) = false) (e2 : ((F 0).kd == 20) = true) (d2 : decide ((2 : Int) ≤ (n : Int)) = true) (g : ((F 1).kd == 18) = false) :
    Calls Try.prog 24 #[.slice (some ⟨T, o, none⟩) n c] w (CmpP T o n c 4 1 w) := by
  obtain ⟨⟨-, -, -, -, -, k0, s0⟩, -⟩ := h 0 (by omega)
  simp only [Nat.zero_mul, Nat.one_mul, Nat.add_zero, Nat.reduceMul] at k0 s0
  obtain ⟨⟨-, -, -, -, -, k1, s1⟩, -⟩ := h 1 (by omega)
  simp only [Nat.zero_mul, Nat.one_mul, Nat.add_zero, Nat.reduceMul] at k1 s1
  clear h
  go_enter Try.func24, Try.ntmps24
  go_wp2
  go_quiet (fail)
  go_wp2
  go_quiet (fail)
  go_wp2
  all_goals (go_ret2; exact ⟨_, _, rfl, (fun h => by first | rfl | (exfalso; omega)), (fun h => by first | cases h | omega), by first | rfl | exact World.drewN_drewN _ _ _⟩)
set_option maxRecDepth 100000 in
set_option maxHeartbeats 2000000 in
theorem cmp_gt_c (T o n c : Nat) (F : Nat → Tk) (w : World) (hn : 2 ≤ n) (hc : n ≤ c) (hm : c ≤ 9223372036854775807) (h : TokB w T o n F) (e : ((F 0).kd == 18) = false) (e1 : ((F 0).kd == 21) = false) (e2 : ((F 0).kd == 20) = true) (d2 : decide ((2 : Int) ≤ (n : Int)) = true) (g : ((F 1).kd == 18) = true) (g1 : (or8 (and8 (F 0).ws 2) (and8 (F 1).ws 1) == 0) = false) :
    Calls Try.prog 24 #[.slice (some ⟨T, o, none⟩) n c] w (CmpP T o n c 4 1 w) := by
  obtain ⟨⟨-, -, -, -, -, k0, s0⟩, -⟩ := h 0 (by omega)
  simp only [Nat.zero_mul, Nat.one_mul, Nat.add_zero, Nat.reduceMul] at k0 s0
  obtain ⟨⟨-, -, -, -, -, k1, s1⟩, -⟩ := h 1 (by omega)
  simp only [Nat.zero_mul, Nat.one_mul, Nat.add_zero, Nat.reduceMul] at k1 s1
  clear h
  go_enter Try.func24, Try.ntmps24
  go_wp2
  go_quiet (fail)
  go_wp2
  go_quiet (fail)
  go_wp2
  all_goals (go_ret2; exact ⟨_, _, rfl, (fun h => by first | rfl | (exfalso; omega)), (fun h => by first | cases h | omega), by first | rfl | exact World.drewN_drewN _ _ _⟩)
set_option maxRecDepth 100000 in
set_option maxHeartbeats 2000000 in
theorem cmp_gt_d (T o n c : Nat) (F : Nat → Tk) (w : World) (hn : 2 ≤ n) (hc : n ≤ c) (hm : c ≤ 9223372036854775807) (h : TokB w T o n F) (e : ((F 0).kd == 18) = false) (e1 : ((F 0).kd == 21) = false) (e2 : ((F 0).kd == 20) = true) (d2 : decide ((2 : Int) ≤ (n : Int)) = true) (g : ((F 1).kd == 18) = true) (g1 : (or8 (and8 (F 0).ws 2) (and8 (F 1).ws 1) == 0) = true) :
    Calls Try.prog 24 #[.slice (some ⟨T, o, none⟩) n c] w (CmpP T o n c 5 2 w) := by
  obtain ⟨⟨-, -, -, -, -, k0, s0⟩, -⟩ := h 0 (by omega)
  simp only [Nat.zero_mul, Nat.one_mul, Nat.add_zero, Nat.reduceMul] at k0 s0
  obtain ⟨⟨-, -, -, -, -, k1, s1⟩, -⟩ := h 1 (by omega)
  simp only [Nat.zero_mul, Nat.one_mul, Nat.add_zero, Nat.reduceMul] at k1 s1
  clear h
  go_enter Try.func24, Try.ntmps24
  go_wp2
  go_quiet (fail)
  go_wp2
  go_quiet (fail)
  go_wp2
  all_goals (go_ret2; exact ⟨_, _, rfl, (fun h => by first | rfl | (exfalso; omega)), (fun h => by first | cases h | omega), by first | rfl | exact World.drewN_drewN _ _ _⟩)
theorem cmp_c (A : Option Addr) (T o n c : Nat) (F : Nat → Tk) (w : World) (hA : 0 < n → A = some ⟨T, o, none⟩) (hA0 : A = none → c = 0) (hc : n ≤ c) (hm : c ≤ 9223372036854775807) (h : TokB w T o n F) :
    Calls Try.prog 24 #[.slice A n c] w (CmpP T o n c (cv n F) (cn n F) w) := by
  by_cases h0 : n = 0
  · subst h0
    exact cmp_nil A T o c w hA0 hm
  · have hn : 0 < n := by omega
    obtain rfl := hA hn
    by_cases e1 : (F 0).kd = 18
    · have a1 : cv n F = 1 := by unfold cv; rw [if_neg h0, if_pos e1]
      have a2 : cn n F = 1 := by unfold cn; rw [if_neg h0, if_pos e1]
      rw [a1, a2]; exact cmp_18 T o n c F w hn hc hm h (by simp [e1])
    · by_cases e2 : (F 0).kd = 21
      · by_cases q : eq2 n F = true
        · have a1 : cv n F = 3 := by unfold cv; rw [if_neg h0, if_neg e1, if_pos e2, if_pos q]
          have a2 : cn n F = 2 := by unfold cn; rw [if_neg h0, if_neg e1, if_pos e2, if_pos q]
          unfold eq2 at q
          simp only [Bool.and_eq_true, decide_eq_true_eq] at q
          rw [a1, a2]; exact cmp_lt_d T o n c F w q.1.1 hc hm h (by simp [e1]) (by simp [e2]) (by simp; omega) q.1.2 q.2
        · have a1 : cv n F = 2 := by unfold cv; rw [if_neg h0, if_neg e1, if_pos e2, if_neg q]
          have a2 : cn n F = 1 := by unfold cn; rw [if_neg h0, if_neg e1, if_pos e2, if_neg q]
          rw [a1, a2]
          by_cases h2 : n < 2
          · exact cmp_lt_a T o n c F w hn hc hm h (by simp [e1]) (by simp [e2]) h2 (by simp; omega)
          · cases g : ((F 1).kd == 18)
            · exact cmp_lt_b T o n c F w (by omega) hc hm h (by simp [e1]) (by simp [e2]) (by simp; omega) g
            · cases g1 : (or8 (and8 (F 0).ws 2) (and8 (F 1).ws 1) == 0)
              · exact cmp_lt_c T o n c F w (by omega) hc hm h (by simp [e1]) (by simp [e2]) (by simp; omega) g g1
              · exact absurd (show eq2 n F = true by unfold eq2; rw [g, g1]; simp; omega) q
      · by_cases e3 : (F 0).kd = 20
        · by_cases q : eq2 n F = true
          · have a1 : cv n F = 5 := by unfold cv; rw [if_neg h0, if_neg e1, if_neg e2, if_pos e3, if_pos q]
            have a2 : cn n F = 2 := by unfold cn; rw [if_neg h0, if_neg e1, if_neg e2, if_pos e3, if_pos q]
            unfold eq2 at q
            simp only [Bool.and_eq_true, decide_eq_true_eq] at q
            rw [a1, a2]; exact cmp_gt_d T o n c F w q.1.1 hc hm h (by simp [e1]) (by simp [e2]) (by simp [e3]) (by simp; omega) q.1.2 q.2
          · have a1 : cv n F = 4 := by unfold cv; rw [if_neg h0, if_neg e1, if_neg e2, if_pos e3, if_neg q]
            have a2 : cn n F = 1 := by unfold cn; rw [if_neg h0, if_neg e1, if_neg e2, if_pos e3, if_neg q]
            rw [a1, a2]
            by_cases h2 : n < 2
            · exact cmp_gt_a T o n c F w hn hc hm h (by simp [e1]) (by simp [e2]) (by simp [e3]) h2 (by simp; omega)
            · cases g : ((F 1).kd == 18)
              · exact cmp_gt_b T o n c F w (by omega) hc hm h (by simp [e1]) (by simp [e2]) (by simp [e3]) (by simp; omega) g
              · cases g1 : (or8 (and8 (F 0).ws 2) (and8 (F 1).ws 1) == 0)
                · exact cmp_gt_c T o n c F w (by omega) hc hm h (by simp [e1]) (by simp [e2]) (by simp [e3]) (by simp; omega) g g1
                · exact absurd (show eq2 n F = true by unfold eq2; rw [g, g1]; simp; omega) q
        · have a1 : cv n F = 0 := by unfold cv; rw [if_neg h0, if_neg e1, if_neg e2, if_neg e3]
          have a2 : cn n F = 0 := by unfold cn; rw [if_neg h0, if_neg e1, if_neg e2, if_neg e3]
          rw [a1, a2]; exact cmp_no T o n c F w hn hc hm h (by simp [e1]) (by simp [e2]) (by simp [e3])
end Go.Proofs.Ytpnfllnnbinbjaa
