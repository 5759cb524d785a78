/- Proved: for every 32-bit word v the law FnExpandHexDoublesEachNibble returns true, and its argument reads afterwards as before. No condition. -/
import Derived.Test.YtfhoagiedpndgaaRows
import Derived.WalkKit
import Derived.ProofKit
import Derived.OpenShut
import Derived.ShutString
import Derived.LoopN
import Derived.Lib.Hide
import Derived.Laws.BitsAllLaws
namespace Go.Proofs.Ytfhoagiedpndgaa.fnExpandHexDoublesEachNibble
open Go.ChangeShapes Go.WideShapes Go.ChangeAt Go.RowKit
open Go.ChangeMaps (open_string shut_string)
set_option linter.unusedVariables false

theorem ret_int {k : IntKind} {a b : Int} (h : a = b) : Ending.returned (.int k a) = .returned (.int k b) := by rw [h]
theorem ret_bool {a : Bool} (h : a = true) : Ending.returned (.bool a) = .returned (.bool true) := by rw [h]
theorem exp_or (a b i : Nat) (h : b < 2 ^ i) : (a * 2 ^ i) ||| b = a * 2 ^ i + b := by
  rw [Nat.mul_comm, Nat.two_pow_add_eq_or_of_lt h]
set_option maxRecDepth 100000 in
theorem expand (v : Nat) :
    ((((v &&& 61440) * 65536 % 4294967296 ||| (v &&& 65280) * 4096 % 4294967296) ||| (v &&& 4080) * 256 % 4294967296) ||| (v &&& 255) * 16 % 4294967296) ||| (v &&& 15)
     = v % 16 * 17 + v / 16 % 16 * 17 * 256 + v / 256 % 16 * 17 * 65536 + v / 4096 % 16 * 17 * 16777216 := by
  rw [show 61440 = 2^16 - 2^12 by rfl, show 65280 = 2^16 - 2^8 by rfl, show 4080 = 2^12 - 2^4 by rfl, show 255 = 2^8-2^0 by rfl, show 15 = 2^4-2^0 by rfl]
  rw [nat_midmask 16 12 v (by decide), nat_midmask 16 8 v (by decide), nat_midmask 12 4 v (by decide), nat_midmask 8 0 v (by decide), nat_midmask 4 0 v (by decide)]
  simp only [Nat.reducePow]
  have e1 : v % 65536 / 4096 * 4096 * 65536 % 4294967296 = (v / 4096 % 16) * 2^28 := by omega
  have e2 : v % 65536 / 256 * 256 * 4096 % 4294967296 = (v / 4096 % 16 * 16 + v / 256 % 16) * 2^20 := by omega
  have e3 : v % 4096 / 16 * 16 * 256 % 4294967296 = (v / 256 % 16 * 16 + v / 16 % 16) * 2^12 := by omega
  have e4 : v % 256 / 1 * 1 * 16 % 4294967296 = (v / 16 % 16 * 16 + v % 16) * 2^4 := by omega
  have e5 : v % 16 / 1 * 1 = v % 16 := by omega
  rw [e1, e2, e3, e4, e5]
  rw [exp_or _ _ 28 (by omega), show (v / 4096 % 16) * 2^28 + (v / 4096 % 16 * 16 + v / 256 % 16) * 2^20 = ((v / 4096 % 16)* 256 + (v / 4096 % 16 * 16 + v / 256 % 16)) * 2^20 by omega]
  rw [exp_or _ _ 20 (by omega)]
  rw [show ((v / 4096 % 16)* 256 + (v / 4096 % 16 * 16 + v / 256 % 16)) * 2^20 + (v / 256 % 16 * 16 + v / 16 % 16) * 2^12 = (((v / 4096 % 16)* 256 + (v / 4096 % 16 * 16 + v / 256 % 16)) * 256 + (v / 256 % 16 * 16 + v / 16 % 16)) * 2^12 by omega]
  rw [exp_or _ _ 12 (by omega)]
  rw [show (((v / 4096 % 16)* 256 + (v / 4096 % 16 * 16 + v / 256 % 16)) * 256 + (v / 256 % 16 * 16 + v / 16 % 16)) * 2^12 + (v / 16 % 16 * 16 + v % 16) * 2^4 = ((((v / 4096 % 16)* 256 + (v / 4096 % 16 * 16 + v / 256 % 16)) * 256 + (v / 256 % 16 * 16 + v / 16 % 16)) * 256 + (v / 16 % 16 * 16 + v % 16)) * 2^4 by omega]
  rw [exp_or _ _ 4 (by omega)]
  omega
theorem and_nat (v m : Nat) (hv : v < 4294967296) (hm : m < 4294967296) : bits .and .u32 (v : Int) (m : Int) = ((v &&& m : Nat) : Int) := u32_and_nat v m hv hm
theorem expandBits (v : Int) (h0 : 0 ≤ v) (h1 : v ≤ 4294967295) :
    bits .or .u32 (bits .or .u32 (bits .or .u32 (bits .or .u32 (bits .and .u32 v 61440 * 65536 % 4294967296) (bits .and .u32 v 65280 * 4096 % 4294967296)) (bits .and .u32 v 4080 * 256 % 4294967296)) (bits .and .u32 v 255 * 16 % 4294967296)) (bits .and .u32 v 15)
     = v % 16 * 17 + v / 16 % 16 * 17 * 256 + v / 256 % 16 * 17 * 65536 + v / 4096 % 16 * 17 * 16777216 := by
  obtain ⟨n, rfl⟩ := Int.eq_ofNat_of_zero_le h0
  have hn : n < 4294967296 := by omega
  have a1 : bits .and .u32 (n : Int) 61440 = ((n &&& 61440 : Nat) : Int) := and_nat n 61440 hn (by decide)
  have a2 : bits .and .u32 (n : Int) 65280 = ((n &&& 65280 : Nat) : Int) := and_nat n 65280 hn (by decide)
  have a3 : bits .and .u32 (n : Int) 4080 = ((n &&& 4080 : Nat) : Int) := and_nat n 4080 hn (by decide)
  have a4 : bits .and .u32 (n : Int) 255 = ((n &&& 255 : Nat) : Int) := and_nat n 255 hn (by decide)
  have a5 : bits .and .u32 (n : Int) 15 = ((n &&& 15 : Nat) : Int) := and_nat n 15 hn (by decide)
  have o := u32_or_nat
  have hl : n &&& 15 < 4294967296 := Nat.lt_of_le_of_lt Nat.and_le_right (by decide)
  rw [a1, a2, a3, a4, a5]
  have c : ∀ m k : Nat, ((m : Int) * (k : Int)) % 4294967296 = ((m * k % 4294967296 : Nat) : Int) := by intro m k; omega
  have m : ∀ m : Nat, m % 4294967296 < 2 ^ 32 := fun m => Nat.mod_lt _ (by decide)
  have c1 : ((n &&& 61440 : Nat) : Int) * 65536 % 4294967296 = (((n &&& 61440) * 65536 % 4294967296 : Nat) : Int) := c (n &&& 61440) 65536
  have c2 : ((n &&& 65280 : Nat) : Int) * 4096 % 4294967296 = (((n &&& 65280) * 4096 % 4294967296 : Nat) : Int) := c (n &&& 65280) 4096
  have c3 : ((n &&& 4080 : Nat) : Int) * 256 % 4294967296 = (((n &&& 4080) * 256 % 4294967296 : Nat) : Int) := c (n &&& 4080) 256
  have c4 : ((n &&& 255 : Nat) : Int) * 16 % 4294967296 = (((n &&& 255) * 16 % 4294967296 : Nat) : Int) := c (n &&& 255) 16
  rw [c1, c2, c3, c4]
  have l1 := Nat.or_lt_two_pow (m ((n &&& 61440) * 65536)) (m ((n &&& 65280) * 4096))
  have l2 := Nat.or_lt_two_pow l1 (m ((n &&& 4080) * 256))
  have l3 := Nat.or_lt_two_pow l2 (m ((n &&& 255) * 16))
  rw [o _ _ (m _) (m _), o _ _ l1 (m _), o _ _ l2 (m _), o _ _ l3 hl, expand n]
  omega

def nib (v : Int) (k : Nat) : Int := v / 16 ^ k
theorem nib_zero (v : Int) : nib v 0 = v := by simp [nib]
theorem nib_succ (v : Int) (k : Nat) : nib v (k + 1) = nib v k / 16 := by
  unfold nib; rw [Int.pow_succ, Int.ediv_ediv_of_nonneg (Int.pow_nonneg (by decide))]
theorem nib_nn (v : Int) (k : Nat) (h : 0 ≤ v) : 0 ≤ nib v k := Int.ediv_nonneg h (Int.pow_nonneg (by decide))
theorem nib_le (v : Int) (k : Nat) (h : 0 ≤ v) : nib v k ≤ v := Int.ediv_le_self _ h
set_option maxHeartbeats 400000 in
theorem nib_any (v : Int) (n : Nat) (w : World) (hn : n ≤ 100) (h0 : 0 ≤ v) (h1 : v ≤ 4294967295) :
    Calls Try.prog 10 #[.int .u32 v, .int .i64 n] w fun e w' => e = .returned (.int .u32 (nib v n % 16)) ∧ w = w' := by
  go_enter Try.func10, Try.ntmps10
  go_wp2
  go_loop [0, 5] (fun x i => ∃ k : Nat, k ≤ n ∧ i = .int .i64 k ∧ x = .int .u32 (nib v k)) (fun _ i => n - (intOf i).toNat)
  case atStart => exact ⟨0, Nat.zero_le _, rfl, by rw [nib_zero]⟩
  case round =>
    obtain ⟨k, hk, rfl, rfl⟩ := hrel
    have hp := nib_nn v k h0
    have hq := nib_le v k h0
    have hs := Lib.hid (nib_succ v k)
    by_cases hlt : k < n
    · go_wp2
      go_round
      case rel => exact ⟨k + 1, by omega, by go_num, by rw [hs.out]⟩
      case measure => simp [intOf]; omega
    · obtain rfl : n = k := by omega
      go_wp2
      go_ret
      exact ⟨rfl, rfl⟩
theorem expHex_any (v : Int) (w : World) (h0 : 0 ≤ v) (h1 : v ≤ 4294967295) :
    Calls Try.prog 11 #[.int .u32 v] w fun e w' => e = .returned (.int .u32 (v % 16 * 17 + v / 16 % 16 * 17 * 256 + v / 256 % 16 * 17 * 65536 + v / 4096 % 16 * 17 * 16777216)) ∧ w = w' := by
  go_enter Try.func11, Try.ntmps11
  go_wp2
  go_ret
  exact ⟨ret_int (expandBits v h0 h1), rfl⟩
def pl : Nat → Int
  | 0 => 1
  | 1 => 256
  | 2 => 65536
  | 3 => 16777216
  | _ => 0
def wn (v : Int) : Nat → Int
  | 0 => 0
  | 1 => nib v 0 % 16 * 17
  | 2 => nib v 0 % 16 * 17 + nib v 1 % 16 * 17 * 256
  | 3 => nib v 0 % 16 * 17 + nib v 1 % 16 * 17 * 256 + nib v 2 % 16 * 17 * 65536
  | _ => nib v 0 % 16 * 17 + nib v 1 % 16 * 17 * 256 + nib v 2 % 16 * 17 * 65536 + nib v 3 % 16 * 17 * 16777216
theorem pl_nn (k : Nat) : 0 ≤ pl k ∧ pl k ≤ 16777216 := by unfold pl; split <;> decide
theorem pl_succ (k : Nat) (h : k < 4) : pl (k + 1) = pl k * 256 % 4294967296 := by
  match k, h with
  | 0, _ => decide
  | 1, _ => decide
  | 2, _ => decide
  | 3, _ => decide
theorem wn_succ (v : Int) (k : Nat) (h : k < 4) : wn v (k + 1) = (wn v k + nib v k % 16 * 17 * pl k % 4294967296) % 4294967296 ∧ 0 ≤ wn v k ∧ wn v k ≤ 4294967295 ∧ 0 ≤ nib v k % 16 ∧ nib v k % 16 ≤ 15 := by
  match k, h with
  | 0, _ => simp only [wn, pl, Nat.reduceAdd]; omega
  | 1, _ => simp only [wn, pl, Nat.reduceAdd]; omega
  | 2, _ => simp only [wn, pl, Nat.reduceAdd]; omega
  | 3, _ => simp only [wn, pl, Nat.reduceAdd]; omega
theorem wn_four (v : Int) (h0 : 0 ≤ v) : wn v 4 = v % 16 * 17 + v / 16 % 16 * 17 * 256 + v / 256 % 16 * 17 * 65536 + v / 4096 % 16 * 17 * 16777216 := by
  simp [wn, nib]
set_option maxHeartbeats 1000000 in
theorem walk (a0 : Int) (w0 : (Lit.int .u32 a0).wf = true) (w : World) :
    Calls Try.prog 4 #[.int .u32 a0] w fun e w' => e = .returned (.bool true) ∧ Grown w w' := by
  obtain ⟨h0, h1⟩ := bounds_u32 w0
  go_enter Try.func4, Try.ntmps4
  go_wp2
  go_loop [3, 4, 5] (fun want place i => ∃ k : Nat, k ≤ 4 ∧ i = .int .i64 k ∧ place = .int .u32 (pl k) ∧ want = .int .u32 (wn a0 k)) (fun _ _ i => 4 - (intOf i).toNat)
  case atStart => exact ⟨0, by decide, rfl, rfl, rfl⟩
  case round =>
    obtain ⟨k, hk, rfl, rfl, rfl⟩ := hrel
    by_cases hlt : k < 4
    · obtain ⟨e1, b1, b2, b3, b4⟩ := wn_succ a0 k hlt
      obtain ⟨b5, b6⟩ := pl_nn k
      have e2 := Lib.hid (pl_succ k hlt)
      have E1 := Lib.hid e1
      clear e1
      go_wp2_with (go_at_call 10; refine (nib_any _ _ _ (by omega) h0 h1).mono ?_; rintro e w' ⟨rfl, rfl⟩)
      go_round
      case rel => exact ⟨k + 1, by omega, by go_num, by rw [e2.out], by rw [E1.out]⟩
      case measure => simp [intOf]; omega
    · obtain rfl : k = 4 := by omega
      go_wp2_with (go_at_call 11; refine (expHex_any _ _ h0 h1).mono ?_; rintro e w' ⟨rfl, rfl⟩)
      go_ret
      exact ⟨ret_bool (by rw [wn_four a0 h0]; simp), by repeat (first | exact Grown.refl _ | apply Grown.drew | apply Grown.alloc)⟩

theorem own : ownKnob Try.prog.godebug = none := by kernel_rfl
/-! ### THE ROW's STEP: WRITTEN OUT: LEAVE IT -/
set_option maxRecDepth 100000 in
theorem lifted (os : Os) (started : os.Started) (H : Type) (enc : TypeId × Value → H) :
    ReturnsInHanded {} Try.checked os 4 .any (Rows.fnExpandHexDoublesEachNibbleSpec.pre6 enc Try.prog Try.f4 Rows.fnExpandHexDoublesEachNibbleRow.domain false) (Rows.fnExpandHexDoublesEachNibbleSpec.post enc Try.prog Try.f4 false true false false) := by
  refine returnsInHanded_of_change (C := Try.checked) own started (by kernel_rfl) Try.func4
    (ChangeSpec.witness6 (enc := enc) (C := Try.checked) false ⟨#[], #[.int .u32 0], []⟩ 8 (by kernel_rfl) (by kernel_rfl) (by kernel_rfl) (by kernel_rfl)) ?_
  intro W base args ds gs before hval0 hW hcnd _
  have hval : ∀ (j : Nat) t v, Try.f4.params[j]? = some t → args[j]? = some v → Value.okWide Try.prog W .any base t v := hval0
  have hW' := hW
  obtain ⟨p, q, hA0, hV, rfl, hfz, hnd⟩ := hW
  have hA : DataW.TrodAll enc Try.prog W 0 (fun _ => true) true Try.f4.params.toList args.toList ds p := hA0
  rw [Try.params4] at hA hval
  obtain ⟨v0, vs0, d0, ds0, p0, q0, hargs, rfl, rfl, h0, r0⟩ := trodAll_cons hA
  obtain ⟨rfl, rfl, rfl⟩ := trodAll_nil r0
  obtain rfl : args = #[v0] := by cases args; simp_all
  obtain ⟨rfl, rfl⟩ := trodVars_none hV
  obtain ⟨a0, rfl, rfl, rfl, w0⟩ := open_int Try.underlying22 (hval 0 22 v0 rfl rfl) h0
  clear hA0 hval0
  simp only [List.append_nil] at hW'
  refine (walk a0 w0 W).mono fun e W' ⟨he, hg⟩ => ?_
  subst he
  exact ⟨_, rfl, post_of_same (pa := []) (pv := []) hW' (fun _ _ _ => (trodAll_cons_mk (shut_bool Try.underlying4 _) trodAll_mk0)) (fun sp _ => (trodAll_cons_mk (shut_int Try.underlying22 w0) trodAll_mk0)) (fun _ _ => rfl) rfl
    (hg.frame _) hg.2.1 (ok_one (by kernel_rfl) rfl (okWide_bool_mk Try.underlying4 _))⟩

theorem over : Rows.fnExpandHexDoublesEachNibbleRow.holds Try.pinned (OpenSpec.ofChange Rows.fnExpandHexDoublesEachNibbleSpec) :=
  OpenClaim.holds_of_wide 4 Try.f4 rfl rfl rfl rfl rfl rfl rfl ⟨rfl, rfl, rfl, rfl, rfl⟩ rfl rfl rfl rfl rfl (by kernel_rfl) Try.func4 (by kernel_rfl)
    (of_decide_eq_true (by kernel_rfl)) (by unfold Func.isWrapper; first | (rw [if_pos (by decide +kernel)]; kernel_rfl) | (rw [if_neg (by decide +kernel)]; exact ⟨rfl, rfl⟩))
    (fun os started H enc _ => lifted os started H enc)

/-- ████ THE STATEMENT ████ -/
theorem proved : Rows.FnExpandHexDoublesEachNibbleSaid :=
  over
#print axioms proved
end Go.Proofs.Ytfhoagiedpndgaa.fnExpandHexDoublesEachNibble
