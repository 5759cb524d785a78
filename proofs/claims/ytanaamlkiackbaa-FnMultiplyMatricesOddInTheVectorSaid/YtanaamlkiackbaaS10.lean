/- The contract of the law's comparison: equal as numbers, or no numbers both. -/
import Derived.Test.YtanaamlkiackbaaOd
set_option linter.unusedSimpArgs false
set_option linter.unusedVariables false
namespace Go.Proofs.Ytanaamlkiackbaa
open Go.RowKit
open Flt Ieee
theorem same_c (a b : Nat) (w : World) (h : eqB a b = true ∨ (isNan a ∧ isNan b)) : Calls Try.prog 10 #[.float .f64 a, .float .f64 b] w fun e w' => e = .returned (.bool true) ∧ w = w' := by
  by_cases c : eqB a b = true
  · have e1 : (FloatKind.f64.format.order a b == some .eq) = true := c
    clear c h
    go_enter Try.func10, Try.ntmps10
    go_wp2
    go_ret
    exact ⟨rfl, rfl⟩
  · obtain ⟨h1, h2⟩ := h.resolve_left c
    have e1 : (FloatKind.f64.format.order a b == some .eq) = false := nan_eqB h1
    have e2 : (FloatKind.f64.format.order a a != some .eq) = true := by
      have : (FloatKind.f64.format.order a a == some .eq) = false := nan_eqB h1
      simp [bne, this]
    have e3 : (FloatKind.f64.format.order b b != some .eq) = true := by
      have : (FloatKind.f64.format.order b b == some .eq) = false := nan_eqB h2
      simp [bne, this]
    clear c h h1 h2
    go_enter Try.func10, Try.ntmps10
    go_wp2
    go_ret
    exact ⟨rfl, rfl⟩
theorem nan_neg {x : Nat} (h : isNan x) : isNan (negB x) := by
  have e : negB x = x ^^^ 2 ^ 63 := rfl
  obtain ⟨s, t, h⟩ := h
  rw [e]
  have hd : (x ^^^ 2 ^ 63) % 2 ^ 63 = x % 2 ^ 63 := by
    rw [Nat.xor_mod_two_pow]; simp
  unfold isNan
  unfold Format.read at *
  dsimp only at *
  rw [show F.signWeight = 2 ^ 63 from rfl] at *
  rw [hd]
  split at h
  · cases h
  · split at h
    · cases h
    · split at h
      · cases h
      · rename_i c1 c2 c3
        rw [if_neg c1, if_neg c2, if_neg c3]
        exact ⟨_, _, rfl⟩
end Go.Proofs.Ytanaamlkiackbaa
