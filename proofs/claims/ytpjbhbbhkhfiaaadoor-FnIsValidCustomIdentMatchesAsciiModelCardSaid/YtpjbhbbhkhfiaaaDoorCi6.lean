/- The law's model of a custom ident, walked. -/
import Derived.Test.YtpjbhbbhkhfiaaaDoorCi5
set_option linter.unusedVariables false
set_option linter.unusedSimpArgs false
namespace Go.Proofs.YtpjbhbbhkhfiaaaDoor
open Go.RowKit
def eqB (a b : ByteArray) : Bool := a.toList == b.toList
set_option maxRecDepth 100000 in
set_option maxHeartbeats 2000000 in
theorem model_e1 (s kw L : ByteArray) (w : World) (h : s.size ≤ 1048576) (hp : prB s = true) (hL : lowA s = L) (q1 : (L.toList == kw.toList) = true) : Calls Tryd.prog 18 #[.string s, .string kw] w (fun e w' => e = .returned (.bool (false)) ∧ Below w.heap.size w w') := by
  have HL := Lib.hid (lower_c s w h hp)
  rw [hL] at HL
  clear hL
  have CW := Lib.hid (fun w => wide_c L w)
  have HP := Lib.hid hp
  clear hp
  go_enter Tryd.func18, Tryd.ntmps18
  go_upto_region 2 with (go_at_call 25; (with_reducible refine HL.out.mono ?_); rintro e w1 ⟨rfl, hb1⟩)
  clear HL
  have hB := Lib.hid hb1
  clear hb1
  go_wp2_with (first | (go_at_call 26; (with_reducible refine (CW.out _).mono ?_); rintro e w' ⟨rfl, rfl⟩))
  go_ret
  exact ⟨rfl, hB.out⟩
set_option maxRecDepth 100000 in
set_option maxHeartbeats 2000000 in
theorem model_e2 (s kw L : ByteArray) (w : World) (h : s.size ≤ 1048576) (hp : prB s = true) (hL : lowA s = L) (q1 : (L.toList == kw.toList) = false) (q2 : cssW L = true) : Calls Tryd.prog 18 #[.string s, .string kw] w (fun e w' => e = .returned (.bool (false)) ∧ Below w.heap.size w w') := by
  have HL := Lib.hid (lower_c s w h hp)
  rw [hL] at HL
  clear hL
  have CW := Lib.hid (fun w => wide_c L w)
  have HP := Lib.hid hp
  clear hp
  rw [q2] at CW
  clear q2
  go_enter Tryd.func18, Tryd.ntmps18
  go_upto_region 2 with (go_at_call 25; (with_reducible refine HL.out.mono ?_); rintro e w1 ⟨rfl, hb1⟩)
  clear HL
  have hB := Lib.hid hb1
  clear hb1
  go_wp2_with (first | (go_at_call 26; (with_reducible refine (CW.out _).mono ?_); rintro e w' ⟨rfl, rfl⟩))
  go_ret
  exact ⟨rfl, hB.out⟩
set_option maxRecDepth 100000 in
set_option maxHeartbeats 2000000 in
theorem model_e3 (s kw L : ByteArray) (w : World) (h : s.size ≤ 1048576) (hp : prB s = true) (hL : lowA s = L) (q1 : (L.toList == kw.toList) = false) (q2 : cssW L = false) (q3 : s.toList = []) : Calls Tryd.prog 18 #[.string s, .string kw] w (fun e w' => e = .returned (.bool (false)) ∧ Below w.heap.size w w') := by
  have HL := Lib.hid (lower_c s w h hp)
  rw [hL] at HL
  clear hL
  have CW := Lib.hid (fun w => wide_c L w)
  have HP := Lib.hid hp
  clear hp
  rw [q2] at CW
  clear q2
  go_enter Tryd.func18, Tryd.ntmps18
  go_upto_region 2 with (go_at_call 25; (with_reducible refine HL.out.mono ?_); rintro e w1 ⟨rfl, hb1⟩)
  clear HL
  have hB := Lib.hid hb1
  clear hb1
  go_wp2_with (first | (go_at_call 26; (with_reducible refine (CW.out _).mono ?_); rintro e w' ⟨rfl, rfl⟩))
  go_ret
  exact ⟨rfl, hB.out⟩
set_option maxRecDepth 100000 in
set_option maxHeartbeats 2000000 in
theorem model_s (s kw L : ByteArray) (w : World) (h : s.size ≤ 1048576) (hp : prB s = true) (hL : lowA s = L) (q1 : (L.toList == kw.toList) = false) (q2 : cssW L = false) (h1 : 0 < s.size) (c0 : Int) (k0 : ((s[0]'h1).toNat : Int) = c0) (l1 : 32 ≤ c0) (l2 : c0 ≤ 126) (m0 : nsN c0 = true) : Calls Tryd.prog 18 #[.string s, .string kw] w (fun e w' => e = .returned (.bool (ncAll s)) ∧ Below w.heap.size w w') := by
  have HL := Lib.hid (lower_c s w h hp)
  rw [hL] at HL
  clear hL
  have CW := Lib.hid (fun w => wide_c L w)
  have HP := Lib.hid hp
  clear hp
  rw [q2] at CW
  clear q2
  have C1 := Lib.hid (fun w => ns27_c c0 w l1 l2)
  rw [m0] at C1
  clear m0
  have e0 : s.toList.isEmpty = false := by
    rw [ByteArray.toList_eq]
    cases q : s.data.toList with
    | nil =>
      have : s.data.toList.length = 0 := by rw [q]; rfl
      rw [Array.length_toList] at this
      have : s.size = 0 := this
      omega
    | cons a b => rfl
  have e1 : (!s.toList.isEmpty) = true := by rw [e0]; rfl
  have e2 : (s.toList == []) = false := by
    cases q : s.toList with
    | nil => rw [q] at e0; cases e0
    | cons a b => rfl
  go_enter Tryd.func18, Tryd.ntmps18
  go_upto_region 2 with (go_at_call 25; (with_reducible refine HL.out.mono ?_); rintro e w1 ⟨rfl, hb1⟩)
  clear HL
  have hB := Lib.hid hb1
  clear hb1
  go_wp2_with (first | (go_at_call 26; (with_reducible refine (CW.out _).mono ?_); rintro e w' ⟨rfl, rfl⟩) | (go_at_call 27; (with_reducible refine (C1.out _).mono ?_); rintro e w' ⟨rfl, rfl⟩))
  clear k0 C1 CW
  go_loopw [6] (fun i wr => ∃ k : Nat, k ≤ s.size ∧ i = .int .i64 k ∧ Hid (∀ j, j < k → ncN (bN s j) = true) ∧ wr = w1) (fun i _ => s.size - (intOf i).toNat)
  case atStart => exact ⟨0, by omega, rfl, Lib.hid fun j h => by omega, rfl⟩
  case round =>
    obtain ⟨p, hpl, rfl, H, rfl⟩ := hrel
    by_cases hlt : p < s.size
    · have hr := bN_rng HP.out p hlt
      have kn := bN_at s p hlt
      have C3 := Lib.hid (fun w => nc28_c (bN s p) w hr.1 hr.2)
      clear hr
      cases hnc : ncN (bN s p) with
      | false =>
        have E2 := Lib.hid (ncAll_no hlt hnc)
        rw [hnc] at C3
        clear hnc
        generalize bN s p = c at *
        go_wp2_with (go_at_call 28; (with_reducible refine (C3.out _).mono ?_); rintro e w' ⟨rfl, rfl⟩)
        go_ret
        exact ⟨ret_bool E2.out.symm, hB.out⟩
      | true =>
        have HN := Lib.hid hnc
        rw [hnc] at C3
        clear hnc
        have HN2 : Hid (∀ j, j < p + 1 → ncN (bN s j) = true) := Lib.hid fun j hj => by
          by_cases e : j = p
          · subst e; exact HN.out
          · exact H.out j (by omega)
        clear HN H
        generalize bN s p = c at *
        go_wp2_with (go_at_call 28; (with_reducible refine (C3.out _).mono ?_); rintro e w' ⟨rfl, rfl⟩)
        go_roundw
        case rel => exact ⟨p + 1, by omega, by go_num, HN2, trivial⟩
        case measure => simp [intOf]; omega
    · have E2 := Lib.hid (ncAll_yes fun j hj => H.out j (by omega))
      clear H
      go_wp2
      go_ret
      exact ⟨ret_bool E2.out.symm, hB.out⟩
set_option maxRecDepth 100000 in
set_option maxHeartbeats 2000000 in
theorem model_n (s kw L : ByteArray) (w : World) (h : s.size ≤ 1048576) (hp : prB s = true) (hL : lowA s = L) (q1 : (L.toList == kw.toList) = false) (q2 : cssW L = false) (h1 : 0 < s.size) (c0 : Int) (k0 : ((s[0]'h1).toNat : Int) = c0) (l1 : 32 ≤ c0) (l2 : c0 ≤ 126) (m0 : nsN c0 = false) (m1 : (c0 == 45) = false) : Calls Tryd.prog 18 #[.string s, .string kw] w (fun e w' => e = .returned (.bool (false)) ∧ Below w.heap.size w w') := by
  have HL := Lib.hid (lower_c s w h hp)
  rw [hL] at HL
  clear hL
  have CW := Lib.hid (fun w => wide_c L w)
  have HP := Lib.hid hp
  clear hp
  rw [q2] at CW
  clear q2
  have C1 := Lib.hid (fun w => ns27_c c0 w l1 l2)
  rw [m0] at C1
  clear m0
  have e0 : s.toList.isEmpty = false := by
    rw [ByteArray.toList_eq]
    cases q : s.data.toList with
    | nil =>
      have : s.data.toList.length = 0 := by rw [q]; rfl
      rw [Array.length_toList] at this
      have : s.size = 0 := this
      omega
    | cons a b => rfl
  have e1 : (!s.toList.isEmpty) = true := by rw [e0]; rfl
  have e2 : (s.toList == []) = false := by
    cases q : s.toList with
    | nil => rw [q] at e0; cases e0
    | cons a b => rfl
  have m1' : (c0 != 45) = true := by simpa using m1
  go_enter Tryd.func18, Tryd.ntmps18
  go_upto_region 2 with (go_at_call 25; (with_reducible refine HL.out.mono ?_); rintro e w1 ⟨rfl, hb1⟩)
  clear HL
  have hB := Lib.hid hb1
  clear hb1
  go_wp2_with (first | (go_at_call 26; (with_reducible refine (CW.out _).mono ?_); rintro e w' ⟨rfl, rfl⟩) | (go_at_call 27; (with_reducible refine (C1.out _).mono ?_); rintro e w' ⟨rfl, rfl⟩))
  go_ret
  exact ⟨rfl, hB.out⟩
set_option maxRecDepth 100000 in
set_option maxHeartbeats 2000000 in
theorem model_x (s kw L : ByteArray) (w : World) (h : s.size ≤ 1048576) (hp : prB s = true) (hL : lowA s = L) (q1 : (L.toList == kw.toList) = false) (q2 : cssW L = false) (h1 : 0 < s.size) (c0 : Int) (k0 : ((s[0]'h1).toNat : Int) = c0) (l1 : 32 ≤ c0) (l2 : c0 ≤ 126) (m0 : nsN c0 = false) (m1 : c0 = 45) (h2 : 2 ≤ s.size) (c1 : Int) (k1 : ((s[1]'(by omega)).toNat : Int) = c1) (r1 : 32 ≤ c1) (r2 : c1 ≤ 126) (m2 : nsN c1 = true) : Calls Tryd.prog 18 #[.string s, .string kw] w (fun e w' => e = .returned (.bool (ncAll s)) ∧ Below w.heap.size w w') := by
  have HL := Lib.hid (lower_c s w h hp)
  rw [hL] at HL
  clear hL
  have CW := Lib.hid (fun w => wide_c L w)
  have HP := Lib.hid hp
  clear hp
  rw [q2] at CW
  clear q2
  have C1 := Lib.hid (fun w => ns27_c c0 w l1 l2)
  rw [m0] at C1
  clear m0
  have e0 : s.toList.isEmpty = false := by
    rw [ByteArray.toList_eq]
    cases q : s.data.toList with
    | nil =>
      have : s.data.toList.length = 0 := by rw [q]; rfl
      rw [Array.length_toList] at this
      have : s.size = 0 := this
      omega
    | cons a b => rfl
  have e1 : (!s.toList.isEmpty) = true := by rw [e0]; rfl
  have e2 : (s.toList == []) = false := by
    cases q : s.toList with
    | nil => rw [q] at e0; cases e0
    | cons a b => rfl
  subst m1
  have C2 := Lib.hid (fun w => ns27_c c1 w r1 r2)
  rw [m2] at C2
  clear m2
  go_enter Tryd.func18, Tryd.ntmps18
  go_upto_region 2 with (go_at_call 25; (with_reducible refine HL.out.mono ?_); rintro e w1 ⟨rfl, hb1⟩)
  clear HL
  have hB := Lib.hid hb1
  clear hb1
  go_wp2_with (first | (go_at_call 26; (with_reducible refine (CW.out _).mono ?_); rintro e w' ⟨rfl, rfl⟩) | (go_at_call 27; (with_reducible refine (C1.out _).mono ?_); rintro e w' ⟨rfl, rfl⟩) | (go_at_call 27; (with_reducible refine (C2.out _).mono ?_); rintro e w' ⟨rfl, rfl⟩))
  clear k1 k0 C1 CW C2
  go_loopw [6] (fun i wr => ∃ k : Nat, k ≤ s.size ∧ i = .int .i64 k ∧ Hid (∀ j, j < k → ncN (bN s j) = true) ∧ wr = w1) (fun i _ => s.size - (intOf i).toNat)
  case atStart => exact ⟨0, by omega, rfl, Lib.hid fun j h => by omega, rfl⟩
  case round =>
    obtain ⟨p, hpl, rfl, H, rfl⟩ := hrel
    by_cases hlt : p < s.size
    · have hr := bN_rng HP.out p hlt
      have kn := bN_at s p hlt
      have C3 := Lib.hid (fun w => nc28_c (bN s p) w hr.1 hr.2)
      clear hr
      cases hnc : ncN (bN s p) with
      | false =>
        have E2 := Lib.hid (ncAll_no hlt hnc)
        rw [hnc] at C3
        clear hnc
        generalize bN s p = c at *
        go_wp2_with (go_at_call 28; (with_reducible refine (C3.out _).mono ?_); rintro e w' ⟨rfl, rfl⟩)
        go_ret
        exact ⟨ret_bool E2.out.symm, hB.out⟩
      | true =>
        have HN := Lib.hid hnc
        rw [hnc] at C3
        clear hnc
        have HN2 : Hid (∀ j, j < p + 1 → ncN (bN s j) = true) := Lib.hid fun j hj => by
          by_cases e : j = p
          · subst e; exact HN.out
          · exact H.out j (by omega)
        clear HN H
        generalize bN s p = c at *
        go_wp2_with (go_at_call 28; (with_reducible refine (C3.out _).mono ?_); rintro e w' ⟨rfl, rfl⟩)
        go_roundw
        case rel => exact ⟨p + 1, by omega, by go_num, HN2, trivial⟩
        case measure => simp [intOf]; omega
    · have E2 := Lib.hid (ncAll_yes fun j hj => H.out j (by omega))
      clear H
      go_wp2
      go_ret
      exact ⟨ret_bool E2.out.symm, hB.out⟩
set_option maxRecDepth 100000 in
set_option maxHeartbeats 2000000 in
theorem model_y (s kw L : ByteArray) (w : World) (h : s.size ≤ 1048576) (hp : prB s = true) (hL : lowA s = L) (q1 : (L.toList == kw.toList) = false) (q2 : cssW L = false) (h1 : 0 < s.size) (c0 : Int) (k0 : ((s[0]'h1).toNat : Int) = c0) (l1 : 32 ≤ c0) (l2 : c0 ≤ 126) (m0 : nsN c0 = false) (m1 : c0 = 45) (h2 : 2 ≤ s.size) (c1 : Int) (k1 : ((s[1]'(by omega)).toNat : Int) = c1) (r1 : 32 ≤ c1) (r2 : c1 ≤ 126) (m2 : nsN c1 = false) (m3 : c1 = 45) : Calls Tryd.prog 18 #[.string s, .string kw] w (fun e w' => e = .returned (.bool (ncAll s)) ∧ Below w.heap.size w w') := by
  have HL := Lib.hid (lower_c s w h hp)
  rw [hL] at HL
  clear hL
  have CW := Lib.hid (fun w => wide_c L w)
  have HP := Lib.hid hp
  clear hp
  rw [q2] at CW
  clear q2
  have C1 := Lib.hid (fun w => ns27_c c0 w l1 l2)
  rw [m0] at C1
  clear m0
  have e0 : s.toList.isEmpty = false := by
    rw [ByteArray.toList_eq]
    cases q : s.data.toList with
    | nil =>
      have : s.data.toList.length = 0 := by rw [q]; rfl
      rw [Array.length_toList] at this
      have : s.size = 0 := this
      omega
    | cons a b => rfl
  have e1 : (!s.toList.isEmpty) = true := by rw [e0]; rfl
  have e2 : (s.toList == []) = false := by
    cases q : s.toList with
    | nil => rw [q] at e0; cases e0
    | cons a b => rfl
  subst m1
  have C2 := Lib.hid (fun w => ns27_c c1 w r1 r2)
  rw [m2] at C2
  clear m2
  subst m3
  go_enter Tryd.func18, Tryd.ntmps18
  go_upto_region 2 with (go_at_call 25; (with_reducible refine HL.out.mono ?_); rintro e w1 ⟨rfl, hb1⟩)
  clear HL
  have hB := Lib.hid hb1
  clear hb1
  go_wp2_with (first | (go_at_call 26; (with_reducible refine (CW.out _).mono ?_); rintro e w' ⟨rfl, rfl⟩) | (go_at_call 27; (with_reducible refine (C1.out _).mono ?_); rintro e w' ⟨rfl, rfl⟩) | (go_at_call 27; (with_reducible refine (C2.out _).mono ?_); rintro e w' ⟨rfl, rfl⟩))
  clear k1 k0 C1 CW C2
  go_loopw [6] (fun i wr => ∃ k : Nat, k ≤ s.size ∧ i = .int .i64 k ∧ Hid (∀ j, j < k → ncN (bN s j) = true) ∧ wr = w1) (fun i _ => s.size - (intOf i).toNat)
  case atStart => exact ⟨0, by omega, rfl, Lib.hid fun j h => by omega, rfl⟩
  case round =>
    obtain ⟨p, hpl, rfl, H, rfl⟩ := hrel
    by_cases hlt : p < s.size
    · have hr := bN_rng HP.out p hlt
      have kn := bN_at s p hlt
      have C3 := Lib.hid (fun w => nc28_c (bN s p) w hr.1 hr.2)
      clear hr
      cases hnc : ncN (bN s p) with
      | false =>
        have E2 := Lib.hid (ncAll_no hlt hnc)
        rw [hnc] at C3
        clear hnc
        generalize bN s p = c at *
        go_wp2_with (go_at_call 28; (with_reducible refine (C3.out _).mono ?_); rintro e w' ⟨rfl, rfl⟩)
        go_ret
        exact ⟨ret_bool E2.out.symm, hB.out⟩
      | true =>
        have HN := Lib.hid hnc
        rw [hnc] at C3
        clear hnc
        have HN2 : Hid (∀ j, j < p + 1 → ncN (bN s j) = true) := Lib.hid fun j hj => by
          by_cases e : j = p
          · subst e; exact HN.out
          · exact H.out j (by omega)
        clear HN H
        generalize bN s p = c at *
        go_wp2_with (go_at_call 28; (with_reducible refine (C3.out _).mono ?_); rintro e w' ⟨rfl, rfl⟩)
        go_roundw
        case rel => exact ⟨p + 1, by omega, by go_num, HN2, trivial⟩
        case measure => simp [intOf]; omega
    · have E2 := Lib.hid (ncAll_yes fun j hj => H.out j (by omega))
      clear H
      go_wp2
      go_ret
      exact ⟨ret_bool E2.out.symm, hB.out⟩
set_option maxRecDepth 100000 in
set_option maxHeartbeats 2000000 in
theorem model_z (s kw L : ByteArray) (w : World) (h : s.size ≤ 1048576) (hp : prB s = true) (hL : lowA s = L) (q1 : (L.toList == kw.toList) = false) (q2 : cssW L = false) (h1 : 0 < s.size) (c0 : Int) (k0 : ((s[0]'h1).toNat : Int) = c0) (l1 : 32 ≤ c0) (l2 : c0 ≤ 126) (m0 : nsN c0 = false) (m1 : c0 = 45) (h2 : 2 ≤ s.size) (c1 : Int) (k1 : ((s[1]'(by omega)).toNat : Int) = c1) (r1 : 32 ≤ c1) (r2 : c1 ≤ 126) (m2 : nsN c1 = false) (m3 : (c1 == 45) = false) : Calls Tryd.prog 18 #[.string s, .string kw] w (fun e w' => e = .returned (.bool (false)) ∧ Below w.heap.size w w') := by
  have HL := Lib.hid (lower_c s w h hp)
  rw [hL] at HL
  clear hL
  have CW := Lib.hid (fun w => wide_c L w)
  have HP := Lib.hid hp
  clear hp
  rw [q2] at CW
  clear q2
  have C1 := Lib.hid (fun w => ns27_c c0 w l1 l2)
  rw [m0] at C1
  clear m0
  have e0 : s.toList.isEmpty = false := by
    rw [ByteArray.toList_eq]
    cases q : s.data.toList with
    | nil =>
      have : s.data.toList.length = 0 := by rw [q]; rfl
      rw [Array.length_toList] at this
      have : s.size = 0 := this
      omega
    | cons a b => rfl
  have e1 : (!s.toList.isEmpty) = true := by rw [e0]; rfl
  have e2 : (s.toList == []) = false := by
    cases q : s.toList with
    | nil => rw [q] at e0; cases e0
    | cons a b => rfl
  subst m1
  have C2 := Lib.hid (fun w => ns27_c c1 w r1 r2)
  rw [m2] at C2
  clear m2
  have m3' : (c1 != 45) = true := by simpa using m3
  go_enter Tryd.func18, Tryd.ntmps18
  go_upto_region 2 with (go_at_call 25; (with_reducible refine HL.out.mono ?_); rintro e w1 ⟨rfl, hb1⟩)
  clear HL
  have hB := Lib.hid hb1
  clear hb1
  go_wp2_with (first | (go_at_call 26; (with_reducible refine (CW.out _).mono ?_); rintro e w' ⟨rfl, rfl⟩) | (go_at_call 27; (with_reducible refine (C1.out _).mono ?_); rintro e w' ⟨rfl, rfl⟩) | (go_at_call 27; (with_reducible refine (C2.out _).mono ?_); rintro e w' ⟨rfl, rfl⟩))
  go_ret
  exact ⟨rfl, hB.out⟩
/-- what the law's model says -/
def mdB (s kw : ByteArray) : Bool := !eqB (lowA s) kw && !cssW (lowA s) && !s.toList.isEmpty && stB s && ncAll s
theorem model_c (s kw : ByteArray) (w : World) (h : s.size ≤ 1048576) (hp : prB s = true) (h2 : 0 < s.size → bN s 0 = 45 → 2 ≤ s.size) : Calls Tryd.prog 18 #[.string s, .string kw] w (fun e w' => e = .returned (.bool (mdB s kw)) ∧ Below w.heap.size w w') := by
  unfold mdB eqB
  cases q1 : ((lowA s).toList == kw.toList) with
  | true => simpa using model_e1 s kw _ w h hp rfl q1
  | false =>
    cases q2 : cssW (lowA s) with
    | true => simpa using model_e2 s kw _ w h hp rfl q1 q2
    | false =>
      by_cases q3 : s.toList = []
      · simpa [q3] using model_e3 s kw _ w h hp rfl q1 q2 q3
      · have h1 := pos_of q3
        have e0 : s.toList.isEmpty = false := by cases q : s.toList with
          | nil => exact absurd q q3
          | cons a b => rfl
        have k0 := bN_at s 0 h1
        obtain ⟨l1, l2⟩ := bN_rng hp 0 h1
        rw [e0]
        unfold stB
        cases m0 : nsN (bN s 0) with
        | true => simpa using model_s s kw _ w h hp rfl q1 q2 h1 _ k0 l1 l2 m0
        | false =>
          by_cases m1 : bN s 0 = 45
          · have h2' := h2 h1 m1
            have k1 := bN_at s 1 (by omega)
            obtain ⟨r1, r2⟩ := bN_rng hp 1 (by omega)
            cases m2 : nsN (bN s 1) with
            | true => simpa [m1] using model_x s kw _ w h hp rfl q1 q2 h1 _ k0 l1 l2 m0 m1 h2' _ k1 r1 r2 m2
            | false =>
              by_cases m3 : bN s 1 = 45
              · simpa [m1, m3] using model_y s kw _ w h hp rfl q1 q2 h1 _ k0 l1 l2 m0 m1 h2' _ k1 r1 r2 m2 m3
              · simpa [m1, m3] using model_z s kw _ w h hp rfl q1 q2 h1 _ k0 l1 l2 m0 m1 h2' _ k1 r1 r2 m2 (by simpa using m3)
          · simpa [m1] using model_n s kw _ w h hp rfl q1 q2 h1 _ k0 l1 l2 m0 (by simpa using m1)
end Go.Proofs.YtpjbhbbhkhfiaaaDoor
