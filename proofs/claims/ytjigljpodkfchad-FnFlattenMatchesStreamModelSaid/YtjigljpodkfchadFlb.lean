/- FnFlattenMatchesStreamModel: the small functions. -/
import Derived.Test.YtjigljpodkfchadFla
import Derived.Laws.BytesString
import Derived.Laws.IdiomStrings
set_option linter.unusedVariables false
set_option linter.unusedSimpArgs false
namespace Go.Proofs.Ytjigljpodkfchad
open Go.RowKit
set_option maxRecDepth 100000
set_option maxHeartbeats 4000000
def combZ (c : Int) : Int := if c % 4 = 1 then 62 else if c % 4 = 2 then 43 else if c % 4 = 3 then 126 else 0
theorem comb18_c (c : Int) (h0 : 0 ≤ c) (hc : c ≤ 255) (w : World) : Calls Try.prog 18 #[.int .u8 c] w (RetS (.int .u8 (combZ c)) w) := by
  have h4 : c % 4 = 0 ∨ c % 4 = 1 ∨ c % 4 = 2 ∨ c % 4 = 3 := by omega
  rcases h4 with h | h | h | h
  · have he : combZ c = 0 := by unfold combZ; rw [h]; rfl
    rw [he]
    have q1 : (c % 4 == 1) = false := by rw [h]; rfl
    have q2 : (c % 4 == 2) = false := by rw [h]; rfl
    have q3 : (c % 4 == 3) = false := by rw [h]; rfl
    clear he h
    go_enter Try.func18, Try.ntmps18
    go_wp2
    go_ret
    exact ⟨rfl, rfl⟩
  · have he : combZ c = 62 := by unfold combZ; rw [h]; rfl
    rw [he]
    have q1 : (c % 4 == 1) = true := by rw [h]; rfl
    have q2 : (c % 4 == 2) = false := by rw [h]; rfl
    have q3 : (c % 4 == 3) = false := by rw [h]; rfl
    clear he h
    go_enter Try.func18, Try.ntmps18
    go_wp2
    go_ret
    exact ⟨rfl, rfl⟩
  · have he : combZ c = 43 := by unfold combZ; rw [h]; rfl
    rw [he]
    have q1 : (c % 4 == 1) = false := by rw [h]; rfl
    have q2 : (c % 4 == 2) = true := by rw [h]; rfl
    have q3 : (c % 4 == 3) = false := by rw [h]; rfl
    clear he h
    go_enter Try.func18, Try.ntmps18
    go_wp2
    go_ret
    exact ⟨rfl, rfl⟩
  · have he : combZ c = 126 := by unfold combZ; rw [h]; rfl
    rw [he]
    have q1 : (c % 4 == 1) = false := by rw [h]; rfl
    have q2 : (c % 4 == 2) = false := by rw [h]; rfl
    have q3 : (c % 4 == 3) = true := by rw [h]; rfl
    clear he h
    go_enter Try.func18, Try.ntmps18
    go_wp2
    go_ret
    exact ⟨rfl, rfl⟩
def kindZ (c : Int) : Int := if c % 6 = 0 then 0 else if c % 6 = 1 then 3 else if c % 6 = 2 then 2 else if c % 6 = 3 then 4 else if c % 6 = 4 then 9 else 1
theorem kind32_c (c : Int) (h0 : 0 ≤ c) (hc : c ≤ 255) (w : World) : Calls Try.prog 32 #[.int .u8 c] w (RetS (.int .u8 (kindZ c)) w) := by
  have h4 : c % 6 = 0 ∨ c % 6 = 1 ∨ c % 6 = 2 ∨ c % 6 = 3 ∨ c % 6 = 4 ∨ c % 6 = 5 := by omega
  rcases h4 with h | h | h | h | h | h
  · have he : kindZ c = 0 := by unfold kindZ; rw [h]; rfl
    rw [he]
    have q0 : (c % 6 == 0) = true := by rw [h]; rfl
    have q1 : (c % 6 == 1) = false := by rw [h]; rfl
    have q2 : (c % 6 == 2) = false := by rw [h]; rfl
    have q3 : (c % 6 == 3) = false := by rw [h]; rfl
    have q4 : (c % 6 == 4) = false := by rw [h]; rfl
    clear he h
    go_enter Try.func32, Try.ntmps32
    go_wp2
    go_ret
    exact ⟨rfl, rfl⟩
  · have he : kindZ c = 3 := by unfold kindZ; rw [h]; rfl
    rw [he]
    have q0 : (c % 6 == 0) = false := by rw [h]; rfl
    have q1 : (c % 6 == 1) = true := by rw [h]; rfl
    have q2 : (c % 6 == 2) = false := by rw [h]; rfl
    have q3 : (c % 6 == 3) = false := by rw [h]; rfl
    have q4 : (c % 6 == 4) = false := by rw [h]; rfl
    clear he h
    go_enter Try.func32, Try.ntmps32
    go_wp2
    go_ret
    exact ⟨rfl, rfl⟩
  · have he : kindZ c = 2 := by unfold kindZ; rw [h]; rfl
    rw [he]
    have q0 : (c % 6 == 0) = false := by rw [h]; rfl
    have q1 : (c % 6 == 1) = false := by rw [h]; rfl
    have q2 : (c % 6 == 2) = true := by rw [h]; rfl
    have q3 : (c % 6 == 3) = false := by rw [h]; rfl
    have q4 : (c % 6 == 4) = false := by rw [h]; rfl
    clear he h
    go_enter Try.func32, Try.ntmps32
    go_wp2
    go_ret
    exact ⟨rfl, rfl⟩
  · have he : kindZ c = 4 := by unfold kindZ; rw [h]; rfl
    rw [he]
    have q0 : (c % 6 == 0) = false := by rw [h]; rfl
    have q1 : (c % 6 == 1) = false := by rw [h]; rfl
    have q2 : (c % 6 == 2) = false := by rw [h]; rfl
    have q3 : (c % 6 == 3) = true := by rw [h]; rfl
    have q4 : (c % 6 == 4) = false := by rw [h]; rfl
    clear he h
    go_enter Try.func32, Try.ntmps32
    go_wp2
    go_ret
    exact ⟨rfl, rfl⟩
  · have he : kindZ c = 9 := by unfold kindZ; rw [h]; rfl
    rw [he]
    have q0 : (c % 6 == 0) = false := by rw [h]; rfl
    have q1 : (c % 6 == 1) = false := by rw [h]; rfl
    have q2 : (c % 6 == 2) = false := by rw [h]; rfl
    have q3 : (c % 6 == 3) = false := by rw [h]; rfl
    have q4 : (c % 6 == 4) = true := by rw [h]; rfl
    clear he h
    go_enter Try.func32, Try.ntmps32
    go_wp2
    go_ret
    exact ⟨rfl, rfl⟩
  · have he : kindZ c = 1 := by unfold kindZ; rw [h]; rfl
    rw [he]
    have q0 : (c % 6 == 0) = false := by rw [h]; rfl
    have q1 : (c % 6 == 1) = false := by rw [h]; rfl
    have q2 : (c % 6 == 2) = false := by rw [h]; rfl
    have q3 : (c % 6 == 3) = false := by rw [h]; rfl
    have q4 : (c % 6 == 4) = false := by rw [h]; rfl
    clear he h
    go_enter Try.func32, Try.ntmps32
    go_wp2
    go_ret
    exact ⟨rfl, rfl⟩
def lgK (c : Int) : Bool := decide (c % 6 ≤ 1)
theorem lgk15_c (c : Int) (h0 : 0 ≤ c) (hc : c ≤ 255) (w : World) : Calls Try.prog 15 #[.int .u8 c] w (RetS (.bool (lgK c)) w) := by
  go_enter Try.func15, Try.ntmps15
  go_wp2
  go_ret
  exact ⟨rfl, rfl⟩
def lgN (s : ByteArray) : Bool := (s.toList == [103, 108, 111, 98, 97, 108]) || (s.toList == [108, 111, 99, 97, 108])
theorem lgn16_c (s : ByteArray) (w : World) : Calls Try.prog 16 #[.string s] w (RetS (.bool (lgN s)) w) := by
  unfold lgN
  by_cases h1 : s.toList = [103, 108, 111, 98, 97, 108]
  · have q1 : (s.toList == [103, 108, 111, 98, 97, 108]) = true := by rw [h1]; rfl
    rw [q1]
    go_enter Try.func16, Try.ntmps16
    go_wp2
    go_ret
    exact ⟨by simp, rfl⟩
  · have q1 : (s.toList == [103, 108, 111, 98, 97, 108]) = false := by simp [h1]
    rw [q1]
    by_cases h2 : s.toList = [108, 111, 99, 97, 108]
    · have q2 : (s.toList == [108, 111, 99, 97, 108]) = true := by rw [h2]; rfl
      rw [q2]
      go_enter Try.func16, Try.ntmps16
      go_wp2
      go_ret
      exact ⟨by simp, rfl⟩
    · have q2 : (s.toList == [108, 111, 99, 97, 108]) = false := by simp [h2]
      rw [q2]
      go_enter Try.func16, Try.ntmps16
      go_wp2
      go_ret
      exact ⟨by simp, rfl⟩
def cbZ (c : Int) : Int := if c = 0 then 95 else c
theorem cb40_c (c : Int) (w : World) : Calls Try.prog 40 #[.int .u8 c] w (RetS (.int .u8 (cbZ c)) w) := by
  by_cases h : c = 0
  · have q : (c == 0) = true := by rw [h]; rfl
    have he : cbZ c = 95 := by unfold cbZ; rw [if_pos h]
    rw [he]
    clear he h
    go_enter Try.func40, Try.ntmps40
    go_wp2
    go_ret
    exact ⟨rfl, rfl⟩
  · have q : (c == 0) = false := by simp [h]
    have he : cbZ c = c := by unfold cbZ; rw [if_neg h]
    rw [he]
    clear he h
    go_enter Try.func40, Try.ntmps40
    go_wp2
    go_ret
    exact ⟨rfl, rfl⟩
def bs (l : List Int) : ByteArray := l.foldl (fun r n => r.push (UInt8.ofNat n.toNat)) ByteArray.empty
def letZ (c : Int) : Int := 97 + (c - 1) % 256 % 26
theorem str_of {P : Program} (w : World) (src dst e : TypeId) (a : Addr) (c : Nat) (ns : List Int) (len : Nat) (hl : ns.length = len) (hs : P.underlying src = some (.slice e)) (he : P.underlying e = some (.int .u8)) (hd : P.underlying dst = some .string) (hc : ∀ (j : Nat) (n : Int), ns[j]? = some n → w.cell? (a.add j) = some (.int .u8 n)) : (convert src dst (.slice (some a) len c)).run P w = .ok (.string (bs ns)) w := by
  subst hl
  rw [run_convert_bytes_string w src dst e (some a) ns.length c hs he hd]
  have hl := run_loadCells_list (P := P) w a (ns.map (Value.int .u8)) (fun j v hj => by
    rw [List.getElem?_map] at hj
    cases hn : ns[j]? with
    | none => rw [hn] at hj; cases hj
    | some n => rw [hn] at hj; injection hj with hj; rw [← hj]; exact hc j n hn)
  simp only [List.length_map] at hl
  exact run_bytesToString w a ns.length c ns hl
theorem let23_c (c : Int) (h0 : 0 ≤ c) (hc : c ≤ 255) (w : World) : Calls Try.prog 23 #[.int .u8 c] w (RetV (.string (bs [letZ c])) w) := by
  have hcv : ∀ W, (W.cell? ⟨w.heap.size, 0, none⟩ = some (.int .u8 (letZ c))) → (convert 147 9 (.slice (some ⟨w.heap.size, 0, none⟩) 1 1)).run Try.prog W = .ok (.string (bs [letZ c])) W := fun W hW => str_of W 147 9 5 _ 1 [letZ c] 1 rfl Try.underlying147 Try.underlying5 Try.underlying9 (fun j n hj => by
    cases j with
    | zero => injection hj with hj; subst hj; simpa [Addr.add] using hW
    | succ j => simp at hj)
  have hw1 := hcv (w.alloc (.cells #[.int .u8 (letZ c)] 5)) (by simp [go_sem])
  unfold letZ at *
  go_enter Try.func23, Try.ntmps23
  go_wp2
  go_ret
  exact ⟨rfl, ba _ _⟩
end Go.Proofs.Ytjigljpodkfchad
