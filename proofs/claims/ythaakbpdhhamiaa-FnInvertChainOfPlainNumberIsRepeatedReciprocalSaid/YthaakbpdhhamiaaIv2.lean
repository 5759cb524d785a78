/- The chain: its leaf, its building, what is read of it; walked. -/
import Derived.Test.YthaakbpdhhamiaaIv1
import Derived.Test.YthaakbpdhhamiaaIT
import Derived.Deep.QuietTactic
import Derived.BigQuiet
import Derived.LoopN
import Derived.LaidEqlPtr
set_option linter.unusedVariables false
set_option linter.unusedSimpArgs false
namespace Go.Proofs.Ythaakbpdhhamiaa
open Go.RowKit
open Flt
theorem ta30_53 (p : Value) (w : World) : (Instr.typeAssert (.iface 30 p) 28 53 true).run Try.prog w = .ok (.tuple #[.pointer none, .bool false]) w := by kernel_rfl
theorem ta30_33 (p : Value) (w : World) : (Instr.typeAssert (.iface 30 p) 28 33 true).run Try.prog w = .ok (.tuple #[.pointer none, .bool false]) w := by kernel_rfl
theorem ta33_53 (p : Value) (w : World) : (Instr.typeAssert (.iface 33 p) 28 53 true).run Try.prog w = .ok (.tuple #[.pointer none, .bool false]) w := by kernel_rfl
def tT (j : Nat) : Nat := if j = 0 then 30 else 33
theorem topV_eq (N j : Nat) : topV N j = .iface (tT j) (pN (N + j)) := by cases j <;> rfl
theorem _root_.Go.Proofs.Ythaakbpdhhamiaa.Chn.more {N j x : Nat} {W : World} (h : Chn N j x W) (hs : W.heap.size = N + 1 + j) : Chn N (j + 1) x (W.alloc (.cells #[.iface (tT j) (pN (N + j)), .int .i32 0] 39)) := by
  have ne : ∀ b, b ≤ N + j → b ≠ W.heap.size := fun b hb => by omega
  have hb := ba W (.cells #[.iface (tT j) (pN (N + j)), .int .i32 0] 39)
  refine ⟨ac hb h.n0, ac hb h.n1, af hb h.n1 h.f1, fun i a b => ?_⟩
  by_cases c : i = j + 1
  · subst c
    have e : N + (j + 1) = W.heap.size := by omega
    rw [e, Nat.add_sub_cancel, topV_eq]
    exact ⟨by simp [go_sem], by simp [go_sem]⟩
  · obtain ⟨h1, h2⟩ := h.inv i a (by omega)
    exact ⟨ac hb h1, af hb h1 h2⟩
def ChP (k x : Nat) (w : World) (e : Ending) (w' : World) : Prop := ∃ y, It k x y ∧ e = .returned (.tuple #[.int .i64 0, .int .i64 0, .int .i64 1, .string ⟨#[]⟩, .float .f64 y, .bool true]) ∧ Below w.heap.size w w'
set_option maxRecDepth 100000 in
set_option maxHeartbeats 2000000 in
theorem leaf_c (x : Nat) (w : World) : Calls Try.prog 6 #[.bool false, .string ⟨#[]⟩, .float .f64 x] w fun e w' => e = .returned (.tuple #[.iface 30 (pN w.heap.size), .pointer none, pN w.heap.size]) ∧ w.alloc (.cells #[.string ⟨#[]⟩, .float .f64 x, .int .i32 0] 52) = w' := by
  go_enter Try.func6, Try.ntmps6
  go_wp2
  go_ret3
  exact ⟨rfl, rfl⟩
theorem peq (N : Nat) (w : World) : (binOp .eql 30 (pN N) (pN N)).run Try.prog w = .ok (.bool true) w := by
  have h : Try.prog.underlying 30 = some (.pointer 52) := by kernel_rfl
  cases hi : Try.prog.info? 52 with
  | none => exact absurd hi (by intro q; have : (Try.prog.info? 52).isSome = true := by kernel_rfl
                                rw [q] at this; cases this)
  | some j => exact run_eql_ptr_same w ⟨N, 0, none⟩ h hi
theorem desc_c (N y : Nat) (w : World) (h0 : w.cell? ⟨N, 0, none⟩ = some (.string ⟨#[]⟩)) (h1 : w.cell? ⟨N, 1, none⟩ = some (.float .f64 y)) : Calls Try.prog 7 #[.iface 30 (pN N), .pointer none, pN N] w fun e w' => e = .returned (.tuple #[.int .i64 0, .int .i64 0, .int .i64 1, .string ⟨#[]⟩, .float .f64 y, .bool true]) ∧ Below w.heap.size w w' := by
  have PE := peq N
  have T1 := ta30_53; have T2 := ta30_33; have T3 := ta30
  go_enter Try.func7, Try.ntmps7
  go_wp2
  refine wp_loop_rounds 1 ?_
  rw [rounds_succ]
  go_wp2
  have g0 := fun d os => cell_regrown h0 d os
  have g1 := fun d os => cell_regrown h1 d os
  refine wp_region_quiet_below (by kernel_rfl) (by kernel_rfl) ?_
  repeat (quiet_step (fail))
  refine wpQuiet_nil ?_
  intro W2 hw'
  have hB2 : Below w.heap.size w W2 := by
    obtain ⟨⟨dq, osq⟩, hw''⟩ := hw'
    rw [hw'']; exact below_regrown w dq osq
  clear hw' g0 g1
  go_wp2
  refine bodyPost_ret (v := .tuple #[.int .i64 0, .int .i64 0, .int .i64 1, .string ⟨#[]⟩, .float .f64 y, .bool true]) (by simp [results, Try.results7, go_sem]) rfl ⟨rfl, ?_⟩
  exact hB2
set_option maxRecDepth 100000 in
set_option maxHeartbeats 2000000 in
theorem chain_c (x k : Nat) (w : World) (hk : k ≤ 65536) : Calls Try.prog 4 #[.bool false, .string ⟨#[]⟩, .float .f64 x, .int .i64 k] w (ChP k x w) := by
  have M30 := m30; have M33 := m33
  go_enter Try.func4, Try.ntmps4
  go_upto_region 3 with (go_at_call 6; (with_reducible refine (leaf_c _ _).mono ?_); rintro e u ⟨rfl, rfl⟩)
  refine wp_gen fun W hW => ?_
  have hC : Hid (Chn w.heap.size 0 x W) := Lib.hid ⟨by rw [hW]; simp [go_sem], by rw [hW]; simp [go_sem], by rw [hW]; simp [go_sem], fun i a b => by omega⟩
  have hB : Below w.heap.size w W := by rw [hW]; exact (Below.refl _ _).alloc (Nat.le_refl _) _
  have hS : Hid (W.heap.size = w.heap.size + 1) := Lib.hid (by rw [hW]; simp)
  clear hW
  generalize hN : w.heap.size = N at *
  have HN := Lib.hid hN
  clear hN
  go_loopw [14, 17] (fun v i wr => ∃ j : Nat, j ≤ k ∧ i = .int .i64 j ∧ v = .iface (tT j) (pN (N + j)) ∧ Hid (wr.heap.size = N + 1 + j) ∧ Hid (Chn N j x wr) ∧ Below N w wr) (fun _ i _ => k - (intOf i).toNat)
  case atStart => exact ⟨0, by omega, rfl, rfl, hS, hC, hB⟩
  case round =>
    obtain ⟨j, hj, rfl, rfl, hs, hc, hb⟩ := hrel
    clear hC hS hB
    by_cases hlt : j < k
    · go_wp2
      go_roundw
      case rel => exact ⟨j + 1, by omega, by go_num, by rw [hs.out, show N + 1 + j = N + (j + 1) by omega]; rfl, Lib.hid (by simp; have := hs.out; omega), Lib.hid (hc.out.more hs.out), hb.alloc (by have := hs.out; omega) _⟩
      case measure => simp [intOf]; omega
    · obtain rfl : j = k := by omega
      have hb' := Lib.hid hb
      clear hb hlt
      cases j with
      | zero =>
        have tz : tT 0 = 30 := rfl
        rw [tz, Nat.add_zero]
        have D0 := Lib.hid (fun u (h : wr = u) => desc_c N x u (by rw [← h]; exact hc.out.n0) (by rw [← h]; exact hc.out.n1))
        go_wp2_with (first | (go_at_call 26; (with_reducible refine (num_c N _).mono ?_); rintro e u ⟨rfl, hu⟩) | (go_at_call 7; (with_reducible refine (D0.out _ hu).mono ?_); rintro e u2 ⟨rfl, hb2⟩))
        refine bodyPost_ret (v := .tuple #[.int .i64 0, .int .i64 0, .int .i64 1, .string ⟨#[]⟩, .float .f64 x, .bool true]) (by simp [results, Try.results4, go_sem]) rfl ⟨x, rfl, rfl, ?_⟩
        rw [HN.out]
        subst hu
        exact hb'.out.trans (hb2.mono (by have := hs.out; omega))
      | succ j =>
        have tz : tT (j + 1) = 33 := rfl
        rw [tz]
        have D0 := Lib.hid (fun u (h : Done N (j + 1) x wr u) => desc_c N h.ex.choose u h.n0 h.ex.choose_spec.2)
        have I0 := Lib.hid (inv_c N x j wr hc.out)
        go_wp2_with (first | (go_at_call 28; (with_reducible refine I0.out.mono ?_); rintro e u ⟨rfl, hu⟩; replace hu := Lib.hid hu) | (go_at_call 7; (with_reducible refine (D0.out _ hu.out).mono ?_); rintro e u2 ⟨rfl, hb2⟩))
        have hu' := hu.out
        refine bodyPost_ret (v := .tuple #[.int .i64 0, .int .i64 0, .int .i64 1, .string ⟨#[]⟩, .float .f64 hu'.ex.choose, .bool true]) (by simp [results, Try.results4, go_sem]) rfl ⟨_, hu'.ex.choose_spec.1, rfl, ?_⟩
        rw [HN.out]
        exact hb'.out.trans ((hu'.kp.below (by have := hs.out; omega) (fun b q => q.1)).trans (hb2.mono (by have := hs.out; have := hu'.kp.size; omega)))
end Go.Proofs.Ythaakbpdhhamiaa
