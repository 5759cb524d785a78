/- WouldStartIdentifierWithoutEscapes and isValidCustomIdent, walked. -/
import Derived.Test.YtpjbhbbhkhfiaaaDoorCi3
import Derived.Test.YtpjbhbbhkhfiaaaDoorMk
import Derived.WideMake
set_option linter.unusedVariables false
set_option linter.unusedSimpArgs false
namespace Go.Proofs.YtpjbhbbhkhfiaaaDoor
open Go.RowKit
theorem ext_size (s : ByteArray) (k : Nat) : (s.extract k s.size).size = s.size - k := by simp [ByteArray.size_extract]
theorem ext_at (s : ByteArray) (k : Nat) (h : k < s.size) : ((s.extract k s.size)[0]'(by rw [ext_size]; omega)) = s[k]'h := by
  simp [ByteArray.getElem_extract]
/-- what opens an identifier (in a printable text) -/
def stB (s : ByteArray) : Bool := nsN (bN s 0) || (decide (bN s 0 = 45) && (nsN (bN s 1) || decide (bN s 1 = 45)))
set_option maxRecDepth 100000 in
set_option maxHeartbeats 2000000 in
theorem would_a (s : ByteArray) (w : World) (h : s.size ≤ 1048576) (h1 : 0 < s.size) (c : Int) (hc : ((s[0]'h1).toNat : Int) = c) (l1 : 32 ≤ c) (l2 : c ≤ 126) (e0 : nsN c = true) : Calls Tryd.prog 31 #[.string s] w fun e w' => e = .returned (.bool true) ∧ w = w' := by
  have C1 := Lib.hid (fun w => dec_c s w h h1 c hc (by omega))
  have C3 := Lib.hid (fun w => ns40_c c w l1 l2)
  rw [e0] at C3
  clear hc e0
  go_enter Tryd.func31, Tryd.ntmps31
  go_wp2_with (first | (go_at_call 39; (with_reducible refine (C1.out _).mono ?_); rintro e w' ⟨rfl, rfl⟩) | (go_at_call 40; (with_reducible refine (C3.out _).mono ?_); rintro e w' ⟨rfl, rfl⟩))
  all_goals
    go_ret
    exact ⟨ret_bool (by simp [*]), rfl⟩
set_option maxRecDepth 100000 in
set_option maxHeartbeats 2000000 in
theorem would_b (s : ByteArray) (w : World) (h : s.size ≤ 1048576) (h1 : 0 < s.size) (c : Int) (hc : ((s[0]'h1).toNat : Int) = c) (l1 : 32 ≤ c) (l2 : c ≤ 126) (e0 : nsN c = false) (e1 : (c == 45) = false) : Calls Tryd.prog 31 #[.string s] w fun e w' => e = .returned (.bool false) ∧ w = w' := by
  have C1 := Lib.hid (fun w => dec_c s w h h1 c hc (by omega))
  have C3 := Lib.hid (fun w => ns40_c c w l1 l2)
  rw [e0] at C3
  clear hc e0
  go_enter Tryd.func31, Tryd.ntmps31
  go_wp2_with (first | (go_at_call 39; (with_reducible refine (C1.out _).mono ?_); rintro e w' ⟨rfl, rfl⟩) | (go_at_call 40; (with_reducible refine (C3.out _).mono ?_); rintro e w' ⟨rfl, rfl⟩))
  all_goals
    go_ret
    exact ⟨ret_bool (by simp [*]), rfl⟩
set_option maxRecDepth 100000 in
set_option maxHeartbeats 2000000 in
theorem would_c' (s : ByteArray) (w : World) (h : s.size ≤ 1048576) (h1 : 0 < s.size) (c : Int) (hc : ((s[0]'h1).toNat : Int) = c) (l1 : 32 ≤ c) (l2 : c ≤ 126) (e0 : nsN c = false) (e1 : c = 45) (h2 : 2 ≤ s.size) (c2 : Int) (k2 : ((s[1]'(by omega)).toNat : Int) = c2) (r1 : 32 ≤ c2) (r2 : c2 ≤ 126) (e2 : nsN c2 = true) : Calls Tryd.prog 31 #[.string s] w fun e w' => e = .returned (.bool true) ∧ w = w' := by
  have C1 := Lib.hid (fun w => dec_c s w h h1 c hc (by omega))
  have C2 := Lib.hid (fun w => dec_c (s.extract 1 s.size) w (by rw [ext_size]; omega) (by rw [ext_size]; omega) c2 (by rw [ext_at s 1 (by omega)]; exact k2) (by omega))
  have C4 := Lib.hid (fun w => ns40_c c2 w r1 r2)
  rw [e2] at C4
  clear k2
  have C3 := Lib.hid (fun w => ns40_c c w l1 l2)
  rw [e0] at C3
  clear hc e0
  subst e1
  clear e2
  go_enter Tryd.func31, Tryd.ntmps31
  go_wp2_with (first | (go_at_call 39; (with_reducible refine (C1.out _).mono ?_); rintro e w' ⟨rfl, rfl⟩) | (go_at_call 40; (with_reducible refine (C3.out _).mono ?_); rintro e w' ⟨rfl, rfl⟩) | (go_at_call 39; (with_reducible refine (C2.out _).mono ?_); rintro e w' ⟨rfl, rfl⟩) | (go_at_call 40; (with_reducible refine (C4.out _).mono ?_); rintro e w' ⟨rfl, rfl⟩))
  all_goals
    go_ret
    exact ⟨ret_bool (by simp [*]), rfl⟩
set_option maxRecDepth 100000 in
set_option maxHeartbeats 2000000 in
theorem would_d (s : ByteArray) (w : World) (h : s.size ≤ 1048576) (h1 : 0 < s.size) (c : Int) (hc : ((s[0]'h1).toNat : Int) = c) (l1 : 32 ≤ c) (l2 : c ≤ 126) (e0 : nsN c = false) (e1 : c = 45) (h2 : 2 ≤ s.size) (c2 : Int) (k2 : ((s[1]'(by omega)).toNat : Int) = c2) (r1 : 32 ≤ c2) (r2 : c2 ≤ 126) (e2 : nsN c2 = false) : Calls Tryd.prog 31 #[.string s] w fun e w' => e = .returned (.bool (c2 == 45)) ∧ w = w' := by
  have C1 := Lib.hid (fun w => dec_c s w h h1 c hc (by omega))
  have C2 := Lib.hid (fun w => dec_c (s.extract 1 s.size) w (by rw [ext_size]; omega) (by rw [ext_size]; omega) c2 (by rw [ext_at s 1 (by omega)]; exact k2) (by omega))
  have C4 := Lib.hid (fun w => ns40_c c2 w r1 r2)
  rw [e2] at C4
  clear k2
  have C3 := Lib.hid (fun w => ns40_c c w l1 l2)
  rw [e0] at C3
  clear hc e0
  subst e1
  clear e2
  go_enter Tryd.func31, Tryd.ntmps31
  go_wp2_with (first | (go_at_call 39; (with_reducible refine (C1.out _).mono ?_); rintro e w' ⟨rfl, rfl⟩) | (go_at_call 40; (with_reducible refine (C3.out _).mono ?_); rintro e w' ⟨rfl, rfl⟩) | (go_at_call 39; (with_reducible refine (C2.out _).mono ?_); rintro e w' ⟨rfl, rfl⟩) | (go_at_call 40; (with_reducible refine (C4.out _).mono ?_); rintro e w' ⟨rfl, rfl⟩))
  all_goals
    go_ret
    exact ⟨ret_bool (by simp [*]), rfl⟩
theorem would_c (s : ByteArray) (w : World) (h : s.size ≤ 1048576) (h1 : 0 < s.size) (hp : prB s = true) (h2 : bN s 0 = 45 → 2 ≤ s.size) : Calls Tryd.prog 31 #[.string s] w fun e w' => e = .returned (.bool (stB s)) ∧ w = w' := by
  have k0 := bN_at s 0 h1
  obtain ⟨l1, l2⟩ := bN_rng hp 0 h1
  unfold stB
  cases e0 : nsN (bN s 0) with
  | true => simpa using would_a s w h h1 _ k0 l1 l2 e0
  | false =>
    by_cases e1 : bN s 0 = 45
    · have h2' := h2 e1
      have k1 := bN_at s 1 (by omega)
      obtain ⟨r1, r2⟩ := bN_rng hp 1 (by omega)
      cases e2 : nsN (bN s 1) with
      | true => simpa [e1] using would_c' s w h h1 _ k0 l1 l2 e0 e1 h2' _ k1 r1 r2 e2
      | false =>
        have : Calls Tryd.prog 31 #[.string s] w fun e w' => e = .returned (.bool (decide (bN s 1 = 45))) ∧ w = w' := would_d s w h h1 _ k0 l1 l2 e0 e1 h2' _ k1 r1 r2 e2
        simpa [e1, e2] using this
    · simpa [e1] using would_b s w h h1 _ k0 l1 l2 e0 (by simpa using e1)
end Go.Proofs.YtpjbhbbhkhfiaaaDoor
