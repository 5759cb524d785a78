/- The custom-ident law's small functions over texts, walked. -/
import Derived.Test.YtpjbhbbhkhfiaaaDoorCi1
set_option linter.unusedVariables false
set_option linter.unusedSimpArgs false
namespace Go.Proofs.YtpjbhbbhkhfiaaaDoor
open Go.RowKit
abbrev cw0 : List UInt8 := [105, 110, 105, 116, 105, 97, 108]
abbrev cw1 : List UInt8 := [105, 110, 104, 101, 114, 105, 116]
abbrev cw2 : List UInt8 := [117, 110, 115, 101, 116]
abbrev cw3 : List UInt8 := [100, 101, 102, 97, 117, 108, 116]
abbrev cw4 : List UInt8 := [114, 101, 118, 101, 114, 116]
abbrev cw5 : List UInt8 := [114, 101, 118, 101, 114, 116, 45, 108, 97, 121, 101, 114]
/-- a css-wide word -/
def cssW (s : ByteArray) : Bool := (s.toList == cw0) || (s.toList == cw1) || (s.toList == cw2) || (s.toList == cw3) || (s.toList == cw4) || (s.toList == cw5)
set_option maxRecDepth 100000 in
set_option maxHeartbeats 2000000 in
theorem wide_0 (s : ByteArray) (w : World) (h0 : (s.toList == [105, 110, 105, 116, 105, 97, 108]) = true) : Calls Tryd.prog 26 #[.string s] w fun e w' => e = .returned (.bool true) ∧ w = w' := by
  go_enter Tryd.func26, Tryd.ntmps26
  go_wp2
  go_ret
  exact ⟨rfl, rfl⟩
set_option maxRecDepth 100000 in
set_option maxHeartbeats 2000000 in
theorem wide_1 (s : ByteArray) (w : World) (h0 : (s.toList == [105, 110, 105, 116, 105, 97, 108]) = false) (h1 : (s.toList == [105, 110, 104, 101, 114, 105, 116]) = true) : Calls Tryd.prog 26 #[.string s] w fun e w' => e = .returned (.bool true) ∧ w = w' := by
  go_enter Tryd.func26, Tryd.ntmps26
  go_wp2
  go_ret
  exact ⟨rfl, rfl⟩
set_option maxRecDepth 100000 in
set_option maxHeartbeats 2000000 in
theorem wide_2 (s : ByteArray) (w : World) (h0 : (s.toList == [105, 110, 105, 116, 105, 97, 108]) = false) (h1 : (s.toList == [105, 110, 104, 101, 114, 105, 116]) = false) (h2 : (s.toList == [117, 110, 115, 101, 116]) = true) : Calls Tryd.prog 26 #[.string s] w fun e w' => e = .returned (.bool true) ∧ w = w' := by
  go_enter Tryd.func26, Tryd.ntmps26
  go_wp2
  go_ret
  exact ⟨rfl, rfl⟩
set_option maxRecDepth 100000 in
set_option maxHeartbeats 2000000 in
theorem wide_3 (s : ByteArray) (w : World) (h0 : (s.toList == [105, 110, 105, 116, 105, 97, 108]) = false) (h1 : (s.toList == [105, 110, 104, 101, 114, 105, 116]) = false) (h2 : (s.toList == [117, 110, 115, 101, 116]) = false) (h3 : (s.toList == [100, 101, 102, 97, 117, 108, 116]) = true) : Calls Tryd.prog 26 #[.string s] w fun e w' => e = .returned (.bool true) ∧ w = w' := by
  go_enter Tryd.func26, Tryd.ntmps26
  go_wp2
  go_ret
  exact ⟨rfl, rfl⟩
set_option maxRecDepth 100000 in
set_option maxHeartbeats 2000000 in
theorem wide_4 (s : ByteArray) (w : World) (h0 : (s.toList == [105, 110, 105, 116, 105, 97, 108]) = false) (h1 : (s.toList == [105, 110, 104, 101, 114, 105, 116]) = false) (h2 : (s.toList == [117, 110, 115, 101, 116]) = false) (h3 : (s.toList == [100, 101, 102, 97, 117, 108, 116]) = false) (h4 : (s.toList == [114, 101, 118, 101, 114, 116]) = true) : Calls Tryd.prog 26 #[.string s] w fun e w' => e = .returned (.bool true) ∧ w = w' := by
  go_enter Tryd.func26, Tryd.ntmps26
  go_wp2
  go_ret
  exact ⟨rfl, rfl⟩
set_option maxRecDepth 100000 in
set_option maxHeartbeats 2000000 in
theorem wide_5 (s : ByteArray) (w : World) (h0 : (s.toList == [105, 110, 105, 116, 105, 97, 108]) = false) (h1 : (s.toList == [105, 110, 104, 101, 114, 105, 116]) = false) (h2 : (s.toList == [117, 110, 115, 101, 116]) = false) (h3 : (s.toList == [100, 101, 102, 97, 117, 108, 116]) = false) (h4 : (s.toList == [114, 101, 118, 101, 114, 116]) = false) (h5 : (s.toList == [114, 101, 118, 101, 114, 116, 45, 108, 97, 121, 101, 114]) = true) : Calls Tryd.prog 26 #[.string s] w fun e w' => e = .returned (.bool true) ∧ w = w' := by
  go_enter Tryd.func26, Tryd.ntmps26
  go_wp2
  go_ret
  exact ⟨rfl, rfl⟩
set_option maxRecDepth 100000 in
set_option maxHeartbeats 2000000 in
theorem wide_6 (s : ByteArray) (w : World) (h0 : (s.toList == [105, 110, 105, 116, 105, 97, 108]) = false) (h1 : (s.toList == [105, 110, 104, 101, 114, 105, 116]) = false) (h2 : (s.toList == [117, 110, 115, 101, 116]) = false) (h3 : (s.toList == [100, 101, 102, 97, 117, 108, 116]) = false) (h4 : (s.toList == [114, 101, 118, 101, 114, 116]) = false) (h5 : (s.toList == [114, 101, 118, 101, 114, 116, 45, 108, 97, 121, 101, 114]) = false) : Calls Tryd.prog 26 #[.string s] w fun e w' => e = .returned (.bool false) ∧ w = w' := by
  go_enter Tryd.func26, Tryd.ntmps26
  go_wp2
  go_ret
  exact ⟨rfl, rfl⟩
theorem wide_c (s : ByteArray) (w : World) : Calls Tryd.prog 26 #[.string s] w fun e w' => e = .returned (.bool (cssW s)) ∧ w = w' := by
  unfold cssW
  cases h0 : (s.toList == cw0)
  rotate_left
  · simpa [h0] using wide_0 s w h0
  cases h1 : (s.toList == cw1)
  rotate_left
  · simpa [h0, h1] using wide_1 s w h0 h1
  cases h2 : (s.toList == cw2)
  rotate_left
  · simpa [h0, h1, h2] using wide_2 s w h0 h1 h2
  cases h3 : (s.toList == cw3)
  rotate_left
  · simpa [h0, h1, h2, h3] using wide_3 s w h0 h1 h2 h3
  cases h4 : (s.toList == cw4)
  rotate_left
  · simpa [h0, h1, h2, h3, h4] using wide_4 s w h0 h1 h2 h3 h4
  cases h5 : (s.toList == cw5)
  rotate_left
  · simpa [h0, h1, h2, h3, h4, h5] using wide_5 s w h0 h1 h2 h3 h4 h5
  simpa [h0, h1, h2, h3, h4, h5] using wide_6 s w h0 h1 h2 h3 h4 h5
set_option maxRecDepth 100000 in
set_option maxHeartbeats 2000000 in
theorem bytes_yes (s t : ByteArray) (w : World) (h : s.size + t.size ≤ 1048576) : Calls Tryd.prog 15 #[.string s, .string t] w fun e w' => e = .returned (.bool true) ∧ w = w' := by
  go_enter Tryd.func15, Tryd.ntmps15
  go_wp2
  go_ret
  exact ⟨rfl, rfl⟩
set_option maxRecDepth 100000 in
set_option maxHeartbeats 2000000 in
theorem bytes_no (s t : ByteArray) (w : World) (h : 1048576 < s.size + t.size) (h1 : s.size ≤ 9223372036854775807) (h2 : t.size ≤ 9223372036854775807) : Calls Tryd.prog 15 #[.string s, .string t] w fun e w' => e = .returned (.bool false) ∧ w = w' := by
  go_enter Tryd.func15, Tryd.ntmps15
  go_wp2
  all_goals first | (go_ret; exact ⟨rfl, rfl⟩) | (exfalso; omega)
def okB (c : UInt8) : Bool := decide (32 ≤ c.toNat) && decide (c.toNat ≤ 126)
/-- every byte is printable ASCII -/
def prB (s : ByteArray) : Bool := s.data.toList.all okB
theorem prB_no {s : ByteArray} {k : Nat} (h : k < s.size) (hb : okB (s[k]'h) = false) : prB s = false := by
  unfold prB
  rw [List.all_eq_false]
  refine ⟨s[k]'h, ?_, by rw [hb]; decide⟩
  have h' : k < s.data.size := h
  exact Array.mem_toList_iff.2 (Array.getElem_mem h')
theorem prB_yes {s : ByteArray} (h : ∀ k (h : k < s.size), okB (s[k]'h) = true) : prB s = true := by
  unfold prB
  rw [List.all_eq_true]
  intro c hc
  obtain ⟨k, hk, rfl⟩ := Array.mem_iff_getElem.1 (Array.mem_toList_iff.1 hc)
  exact h k hk
theorem prB_at {s : ByteArray} (h : prB s = true) (k : Nat) (hk : k < s.size) : 32 ≤ ((s[k]'hk).toNat : Int) ∧ ((s[k]'hk).toNat : Int) ≤ 126 := by
  unfold prB at h
  rw [List.all_eq_true] at h
  have h' : k < s.data.size := hk
  have := h _ (Array.mem_toList_iff.2 (Array.getElem_mem h'))
  unfold okB at this
  simp at this
  have e : s[k]'hk = s.data[k] := rfl
  rw [e]; omega
set_option maxRecDepth 100000 in
set_option maxHeartbeats 2000000 in
theorem print_c (s : ByteArray) (w : World) (h : s.size ≤ 1048576) : Calls Tryd.prog 16 #[.string s] w fun e w' => e = .returned (.bool (prB s)) ∧ w = w' := by
  go_enter Tryd.func16, Tryd.ntmps16
  go_wp2
  go_loop [3] (fun i => ∃ k : Nat, k ≤ s.size ∧ i = .int .i64 k ∧ Hid (∀ j (hj : j < s.size), j < k → okB (s[j]'hj) = true)) (fun i => s.size - (intOf i).toNat)
  case atStart => exact ⟨0, by omega, rfl, Lib.hid fun j _ h => by omega⟩
  case round =>
    obtain ⟨k, hk, rfl, H⟩ := hrel
    by_cases hlt : k < s.size
    · cases hc : okB (s[k]'hlt)
      · have E := Lib.hid (prB_no hlt hc)
        unfold okB at hc
        by_cases c1 : ((s[k]'hlt).toNat : Int) < 32
        · clear hc
          go_wp2
          go_ret
          exact ⟨ret_bool E.out.symm, rfl⟩
        · have c2 : (126 : Int) < ((s[k]'hlt).toNat : Int) := by
            simp at hc; have := hc (by omega); omega
          clear hc
          go_wp2
          go_ret
          exact ⟨ret_bool E.out.symm, rfl⟩
      · have c1 : (32 : Int) ≤ ((s[k]'hlt).toNat : Int) := by unfold okB at hc; simp at hc; omega
        have c2 : ((s[k]'hlt).toNat : Int) ≤ 126 := by unfold okB at hc; simp at hc; omega
        have HC := Lib.hid hc
        clear hc
        go_wp2
        go_round
        case rel => exact ⟨k + 1, by omega, by go_num, Lib.hid fun j hj hlt2 => by
          by_cases e : j = k
          · subst e; exact HC.out
          · exact H.out j hj (by omega)⟩
        case measure => simp [intOf]; omega
    · have E := Lib.hid (prB_yes fun j hj => H.out j hj (by omega))
      clear H
      go_wp2
      go_ret
      exact ⟨ret_bool E.out.symm, rfl⟩
set_option maxRecDepth 100000 in
set_option maxHeartbeats 2000000 in
theorem dec_c (s : ByteArray) (w : World) (h : s.size ≤ 1048576) (h2 : 0 < s.size) (c : Int) (hc : ((s[0]'h2).toNat : Int) = c) (h3 : c < 128) : Calls Tryd.prog 39 #[.string s] w fun e w' => e = .returned (.tuple #[.int .i32 c, .int .i64 1]) ∧ w = w' := by
  have e0 : s.toList.isEmpty = false := by
    rw [ByteArray.toList_eq]
    cases q : s.data.toList with
    | nil => have : s.data.toList.length = 0 := by rw [q]; rfl
             rw [Array.length_toList] at this
             have : s.size = 0 := this
             omega
    | cons a b => rfl
  have e1 : (!s.toList.isEmpty) = true := by rw [e0]; rfl
  have hp : (0 : Int) ≤ ((s[0]'h2).toNat : Int) := by omega
  have h3' : ((s[0]'h2).toNat : Int) < 128 := by omega
  have HC := Lib.hid hc
  clear hc
  go_enter Tryd.func39, Tryd.ntmps39
  go_wp2
  go_ret2
  exact ⟨by rw [HC.out]; rfl, rfl⟩
end Go.Proofs.YtpjbhbbhkhfiaaaDoor
