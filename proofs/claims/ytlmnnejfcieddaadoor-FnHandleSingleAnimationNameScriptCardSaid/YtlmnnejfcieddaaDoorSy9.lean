/- What strings.ToLower makes of a text, against the law's own folding. -/
import Derived.Test.YtlmnnejfcieddaaDoorSy7
import Derived.Test.YtlmnnejfcieddaaDoorSy8
set_option linter.unusedVariables false
set_option linter.unusedSimpArgs false
namespace Go.Proofs.YtlmnnejfcieddaaDoor
open Go.RowKit
open Go.Lib
theorem enc_len (r : Int) : (encodeRune r).length ≤ 4 := by
  unfold encodeRune encodeRuneZ
  repeat (first | split | simp)
theorem low_len : ∀ (n : Nat) (l : List UInt8), l.length = n → (toLowerD l).length ≤ 4 * n := by
  intro n
  induction n using Nat.strongRecOn with
  | ind n ih =>
    intro l hl
    by_cases hne : l = []
    · subst hne; simp [toLowerD, mapD, mapGoD]
    · have hw := decodeL_width l
      have hle := decodeL_le l hne
      rw [low_step l hne, List.length_append]
      have h1 : (if 0 ≤ toLowerU (decodeL l).1 then encodeRune (toLowerU (decodeL l).1) else []).length ≤ 4 := by
        split
        · exact enc_len _
        · simp
      have h2 := ih (l.drop (decodeL l).2).length (by rw [List.length_drop]; omega) _ rfl
      rw [List.length_drop] at h2
      omega
theorem lowS_size (s : ByteArray) (h : s.size ≤ 1048576) : (lowS s).size ≤ maxLen := by
  have := low_len _ s.data.toList rfl
  have e : (lowS s).size = (toLowerD s.data.toList).length := by simp [lowS, ByteArray.size]
  have e2 : s.data.toList.length = s.size := by rw [Array.length_toList]; rfl
  rw [e]; unfold maxLen; omega
/-- the reserved words' map answers as it is laid -/
def ResOk (res : ByteArray → Bool) : Prop := ∀ L : ByteArray, (isNone L || res L) = isW L
theorem keeps_eq {res : ByteArray → Bool} (h : ResOk res) (s : ByteArray) : keeps lowS res s = resF s := by
  unfold keeps; rw [h, isW_low]
theorem hs9_c (B T : Nat) (w : World) (Q : World → Prop) (h : Calls Tryd.prog 20 #[.pointer (some ⟨B, 0, none⟩), .pointer (some ⟨T, 0, none⟩)] w (fun e w' => e = .returned (.tuple #[]) ∧ Q w')) :
    Calls Tryd.prog 9 #[.pointer (some ⟨B, 0, none⟩), .pointer (some ⟨T, 0, none⟩)] w (fun e w' => e = .returned (.tuple #[]) ∧ Q w') := by
  have H := Lib.hid h
  clear h
  go_enter Tryd.func9, Tryd.ntmps9
  go_wp2_with (go_at_call 20; (with_reducible refine H.out.mono ?_); rintro e w1 ⟨rfl, hq⟩; replace hq := Lib.hid hq)
  exact bodyPost_end (v := .tuple #[]) (by simp [results, Tryd.results9, go_sem]) rfl ⟨rfl, hq.out⟩
end Go.Proofs.YtlmnnejfcieddaaDoor
