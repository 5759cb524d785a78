/- FnMangleTransformsIdempotentOnNumbers: TokensAreCommaSeparated, the names, the numbers' texts, zzUpper. -/
import Derived.Test.YtoblbakaemglbaaFmtMt1
import Derived.Laws.BitsLemmas
set_option linter.unusedVariables false
set_option linter.unusedSimpArgs false
namespace Go.Proofs.YtoblbakaemglbaaFmt
open Go.RowKit
theorem wraps_i64_63 (n : Int) (h₀ : 0 ≤ n) (h₁ : n < 2 ^ 63) : IntKind.i64.wrap n = n := by rw [IntKind.wrap_i64]; omega
theorem odd_bits (m : Nat) (h : m ≤ 1048576) : bits .and .i64 ((2 * m + 1 : Nat) : Int) 1 = 1 := by
  have h := (bits_nat .i64 63 (by decide) wraps_i64_63 (2 * m + 1) 1 (by omega) (by decide)).1
  rw [Nat.and_one_is_mod] at h
  have e : (2 * m + 1) % 2 = 1 := by omega
  rw [e] at h
  simpa using h
set_option maxRecDepth 100000 in
set_option maxHeartbeats 4000000 in
theorem comma_c (A q m cap : Nat) (w : World) (hm : m ≤ 1048576) (h : ∀ k, k < m → w.cell? ⟨A, q + (2 * k + 1) * 7 + 5, none⟩ = some (.int .u8 10)) : Calls Tryf.prog 13 #[.slice (some ⟨A, q, none⟩) (2 * m + 1) cap] w (fun e w' => e = .returned (.bool true) ∧ w = w') := by
  have H := Lib.hid h
  have hb := odd_bits m hm
  clear h
  obtain ⟨n, hn⟩ : ∃ n, 2 * m + 1 = n := ⟨_, rfl⟩
  rw [hn] at hb ⊢
  go_enter Tryf.func13, Tryf.ntmps13
  go_wp2
  clear hb
  go_loopw [4] (fun v wr => ∃ k : Nat, k ≤ m ∧ v = .int .i64 (2 * (k : Int) + 1) ∧ w = wr) (fun v _ => n - (intOf v).toNat)
  case atStart => exact ⟨0, by omega, rfl, rfl⟩
  case round =>
    obtain ⟨k, hk, rfl, rfl⟩ := hrel
    by_cases hlt : k < m
    · have c5 : w.cell? ⟨A, q + (2 * k + 1) * 7 + 5, none⟩ = some (.int .u8 10) := H.out k hlt
      have i0 : (0 : Int) ≤ 2 * (k : Int) + 1 := by omega
      have i1 : 2 * (k : Int) + 1 < n := by omega
      have it : (2 * (k : Int) + 1).toNat = 2 * k + 1 := by omega
      go_wp2
      go_roundw
      case rel => exact ⟨k + 1, by omega, by go_num, by first | rfl | trivial⟩
      case measure => simp [intOf]; omega
    · obtain rfl : k = m := by omega
      have i1 : (n : Int) ≤ 2 * (k : Int) + 1 := by omega
      go_wp2
      go_ret
      exact ⟨rfl, rfl⟩
theorem comma0_c (a : Option Addr) (cap : Nat) (w : World) : Calls Tryf.prog 13 #[.slice a 0 cap] w (fun e w' => e = .returned (.bool false) ∧ w = w') := by
  have hb : bits .and .i64 0 1 = 0 := by decide
  go_enter Tryf.func13, Tryf.ntmps13
  go_wp2
  go_ret
  exact ⟨rfl, rfl⟩
def nameK (k : Int) : ByteArray := if k = 0 then ⟨#[109, 97, 116, 114, 105, 120]⟩ else if k = 1 then ⟨#[116, 114, 97, 110, 115, 108, 97, 116, 101]⟩ else if k = 2 then ⟨#[116, 114, 97, 110, 115, 108, 97, 116, 101, 120]⟩ else if k = 3 then ⟨#[116, 114, 97, 110, 115, 108, 97, 116, 101, 121]⟩ else if k = 4 then ⟨#[115, 99, 97, 108, 101]⟩ else if k = 5 then ⟨#[115, 99, 97, 108, 101, 120]⟩ else if k = 6 then ⟨#[115, 99, 97, 108, 101, 121]⟩ else if k = 7 then ⟨#[114, 111, 116, 97, 116, 101]⟩ else if k = 8 then ⟨#[114, 111, 116, 97, 116, 101, 122]⟩ else if k = 9 then ⟨#[115, 107, 101, 119]⟩ else if k = 10 then ⟨#[115, 107, 101, 119, 120]⟩ else if k = 11 then ⟨#[115, 107, 101, 119, 121]⟩ else if k = 12 then ⟨#[109, 97, 116, 114, 105, 120, 51, 100]⟩ else if k = 13 then ⟨#[116, 114, 97, 110, 115, 108, 97, 116, 101, 51, 100]⟩ else if k = 14 then ⟨#[116, 114, 97, 110, 115, 108, 97, 116, 101, 122]⟩ else if k = 15 then ⟨#[115, 99, 97, 108, 101, 51, 100]⟩ else if k = 16 then ⟨#[115, 99, 97, 108, 101, 122]⟩ else if k = 17 then ⟨#[114, 111, 116, 97, 116, 101, 51, 100]⟩ else if k = 18 then ⟨#[114, 111, 116, 97, 116, 101, 120]⟩ else if k = 19 then ⟨#[114, 111, 116, 97, 116, 101, 121]⟩ else if k = 20 then ⟨#[112, 101, 114, 115, 112, 101, 99, 116, 105, 118, 101]⟩ else ⟨#[102, 111, 111]⟩
def textK (k : Int) : ByteArray := if k = 0 then ⟨#[48]⟩ else if k = 1 then ⟨#[49]⟩ else if k = 2 then ⟨#[50]⟩ else if k = 3 then ⟨#[45, 49]⟩ else if k = 4 then ⟨#[48, 46, 53]⟩ else if k = 5 then ⟨#[49, 46, 48]⟩ else if k = 6 then ⟨#[48, 48]⟩ else ⟨#[46, 53]⟩
set_option maxRecDepth 100000 in
set_option maxHeartbeats 4000000 in
theorem nameK_c (c : Int) (h0 : 0 ≤ c) (h1 : c ≤ 255) (w : World) : Calls Tryf.prog 5 #[.int .u8 c] w (fun e w' => e = .returned (.string (nameK (c % 22))) ∧ w = w') := by
  have hm : c.tmod 22 = c % 22 := Int.tmod_eq_emod_of_nonneg h0
  obtain ⟨d, hd⟩ : ∃ d, c % 22 = d := ⟨_, rfl⟩
  have d0 : 0 ≤ d := by omega
  have d1 : d < 22 := by omega
  rw [hd] at hm ⊢
  clear hd
  rcases (by omega : d = 0 ∨ d = 1 ∨ d = 2 ∨ d = 3 ∨ d = 4 ∨ d = 5 ∨ d = 6 ∨ d = 7 ∨ d = 8 ∨ d = 9 ∨ d = 10 ∨ d = 11 ∨ d = 12 ∨ d = 13 ∨ d = 14 ∨ d = 15 ∨ d = 16 ∨ d = 17 ∨ d = 18 ∨ d = 19 ∨ d = 20 ∨ d = 21) with rfl | rfl | rfl | rfl | rfl | rfl | rfl | rfl | rfl | rfl | rfl | rfl | rfl | rfl | rfl | rfl | rfl | rfl | rfl | rfl | rfl | rfl
  all_goals
    go_enter Tryf.func5, Tryf.ntmps5
    go_wp2
    go_ret
    exact ⟨rfl, rfl⟩
set_option maxRecDepth 100000 in
set_option maxHeartbeats 4000000 in
theorem textK_c (c : Int) (h0 : 0 ≤ c) (h1 : c ≤ 255) (w : World) : Calls Tryf.prog 7 #[.int .u8 c] w (fun e w' => e = .returned (.string (textK (c % 8))) ∧ w = w') := by
  have hm : c.tmod 8 = c % 8 := Int.tmod_eq_emod_of_nonneg h0
  obtain ⟨d, hd⟩ : ∃ d, c % 8 = d := ⟨_, rfl⟩
  have d0 : 0 ≤ d := by omega
  have d1 : d < 8 := by omega
  rw [hd] at hm ⊢
  clear hd
  rcases (by omega : d = 0 ∨ d = 1 ∨ d = 2 ∨ d = 3 ∨ d = 4 ∨ d = 5 ∨ d = 6 ∨ d = 7) with rfl | rfl | rfl | rfl | rfl | rfl | rfl | rfl
  all_goals
    go_enter Tryf.func7, Tryf.ntmps7
    go_wp2
    go_ret
    exact ⟨rfl, rfl⟩
end Go.Proofs.YtoblbakaemglbaaFmt
