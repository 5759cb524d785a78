/- calcInvert.partiallySimplify over a chain, walked. -/
import Derived.Test.YthaakbpdhhamiaaAp
import Derived.Test.YthaakbpdhhamiaaFl2
import Derived.Lib.Hide
import Derived.Outline
import Derived.LoopTactic
set_option linter.unusedVariables false
set_option linter.unusedSimpArgs false
namespace Go.Proofs.Ythaakbpdhhamiaa
open Go.RowKit
open Flt
abbrev ONE : Nat := 4607182418800017408
/-- what 1 / x may be -/
def Rc (x y : Nat) : Prop := floatBits .quo .f64 ONE x = some y ∨ (floatBits .quo .f64 ONE x = none ∧ isNan y)
/-- the reciprocal taken k times -/
def It : Nat → Nat → Nat → Prop
  | 0, x, y => y = x
  | k + 1, x, y => ∃ z, It k x z ∧ Rc z y
theorem st_fl (a : Addr) (k : FloatKind) (n : Nat) (m) (w : World) : (store a (.float k n) m).run Try.prog w = stored Try.prog w a (.float k n) m := run_store Try.prog w a _ m rfl
theorem rc_run (x : Nat) : ∃ g : World → Nat, (∃ d : Bool, ∀ w, (binOp .quo 22 (.float .f64 ONE) (.float .f64 x)).run Try.prog w = .ok (.float .f64 (g w)) (if d then w.drew else w)) ∧ ∀ w, Rc x (g w) := by
  cases h : floatBits .quo .f64 ONE x with
  | some r => exact ⟨fun _ => r, ⟨false, fun w => by rw [run_float_arith (P := Try.prog) w .quo 22 .f64 ONE x r h]; rfl⟩, fun _ => .inl h⟩
  | none =>
    have hx := fun w => nan_run (P := Try.prog) w .quo 22 ONE x (.inr (.inr (.inr rfl))) h
    exact ⟨fun w => Classical.choose (hx w), ⟨true, fun w => (Classical.choose_spec (hx w)).1⟩, fun w => .inr ⟨h, (Classical.choose_spec (hx w)).2.1⟩⟩
abbrev pN (b : Nat) : Value := .pointer (some ⟨b, 0, none⟩)
def topV (N : Nat) : Nat → Value
  | 0 => .iface 30 (pN N)
  | i + 1 => .iface 33 (pN (N + (i + 1)))
structure Chn (N k x : Nat) (W : World) : Prop where
  n0 : W.cell? ⟨N, 0, none⟩ = some (.string ⟨#[]⟩)
  n1 : W.cell? ⟨N, 1, none⟩ = some (.float .f64 x)
  f1 : W.frozen? ⟨N, 1, none⟩ = false
  inv : ∀ i, 1 ≤ i → i ≤ k → W.cell? ⟨N + i, 0, none⟩ = some (topV N (i - 1)) ∧ W.frozen? ⟨N + i, 0, none⟩ = false
structure Done (N k x : Nat) (w W : World) : Prop where
  kp : Kp (fun b => N ≤ b ∧ b ≤ N + k) w W
  n0 : W.cell? ⟨N, 0, none⟩ = some (.string ⟨#[]⟩)
  ex : ∃ y, It k x y ∧ W.cell? ⟨N, 1, none⟩ = some (.float .f64 y)
  f1 : W.frozen? ⟨N, 1, none⟩ = false
set_option maxRecDepth 100000 in
set_option maxHeartbeats 2000000 in
theorem num_c (b : Nat) (w : World) : Calls Try.prog 26 #[pN b] w fun e w' => e = .returned (.iface 30 (pN b)) ∧ w = w' := by
  go_enter Try.func26, Try.ntmps26
  go_wp2
  go_ret
  exact ⟨rfl, rfl⟩
theorem m30 (a : Addr) (w : World) : (method 177 30 (.pointer (some a)) "github.com/evanw/esbuild/internal/css_parser.partiallySimplify").run Try.prog w = .ok (26, .pointer (some a)) w := by kernel_rfl
theorem m33 (a : Addr) (w : World) : (method 177 33 (.pointer (some a)) "github.com/evanw/esbuild/internal/css_parser.partiallySimplify").run Try.prog w = .ok (28, .pointer (some a)) w := by kernel_rfl
theorem ta30 (p : Value) (w : World) : (Instr.typeAssert (.iface 30 p) 28 30 true).run Try.prog w = .ok (.tuple #[p, .bool true]) w := by kernel_rfl
set_option maxRecDepth 100000 in
set_option maxHeartbeats 2000000 in
theorem inv_base (N x : Nat) (w : World) (h : Chn N 1 x w) : Calls Try.prog 28 #[pN (N + 1)] w fun e w' => e = .returned (.iface 30 (pN N)) ∧ Done N 1 x w w' := by
  obtain ⟨c1, f1⟩ := h.inv 1 (by omega) (by omega)
  have HD : Hid (Done N 0 x w w) := Lib.hid ⟨Kp.refl _, h.n0, ⟨x, rfl, h.n1⟩, h.f1⟩
  have st := st_fl
  have M30 := m30; have M33 := m33; have TA := ta30
  have F1 := Lib.hid f1
  have C1 : Hid (w.cell? ⟨N + 1, 0, none⟩ = some (.iface 30 (pN N))) := Lib.hid c1
  clear h c1 f1
  generalize hBk : N + 1 = Bk at *
  have HBk := Lib.hid hBk
  clear hBk
  have cu := C1.out; have fu := F1.out
  go_enter Try.func28, Try.ntmps28
  go_upto_region 2 with (go_at_call 26; (with_reducible refine (num_c N _).mono ?_); rintro e u ⟨rfl, rfl⟩)
  refine wp_gen fun W hW => ?_
  have hne : (⟨Bk, 0, none⟩ : Addr) ≠ ⟨N, 0, none⟩ := fun e => by injection e with e; have := HBk.out; omega
  have hne1 : (⟨Bk, 0, none⟩ : Addr) ≠ ⟨N, 1, none⟩ := fun e => by injection e with e; have := HBk.out; omega
  obtain ⟨y, hIt, hy⟩ := HD.out.ex
  have w0 : W.cell? ⟨Bk, 0, none⟩ = some (.iface 30 (pN N)) := by rw [hW]; exact cs cu
  have w1 : W.cell? ⟨N, 0, none⟩ = some (.string ⟨#[]⟩) := by rw [hW, co hne]; exact HD.out.n0
  have w2 : W.cell? ⟨N, 1, none⟩ = some (.float .f64 y) := by rw [hW, co hne1]; exact hy
  have w3 : W.frozen? ⟨N, 1, none⟩ = false := by rw [hW, fz]; exact HD.out.f1
  have hk : Hid (Kp (fun b => N ≤ b ∧ b ≤ N + (0 + 1)) w W) := Lib.hid (by rw [hW]; exact (HD.out.kp.wide fun b q => ⟨q.1, by omega⟩).set _ _ (.inl (by have := HBk.out; simp; omega)))
  clear hW cu fu hy hne hne1
  obtain ⟨g, ⟨d, hrun⟩, hg⟩ := rc_run y
  have HG := Lib.hid hg
  have HIt := Lib.hid hIt
  have W0 := Lib.hid w1
  have W2 := Lib.hid w2
  have W3 := Lib.hid w3
  clear hg hIt
  cases d
  all_goals
    simp only [if_true, Bool.false_eq_true, if_false] at hrun
    go_wp2
    go_ret
    have hne : (⟨N, 1, none⟩ : Addr) ≠ ⟨N, 0, none⟩ := fun e => by injection e with _ e; omega
    refine ⟨rfl, ?_, ?_, ⟨g W, ⟨y, HIt.out, HG.out W⟩, ?_⟩, ?_⟩
    · first | exact hk.out.set _ _ (.inl (by simp)) | exact hk.out.drew.set _ _ (.inl (by simp)) | exact (hk.out.set _ _ (.inl (by simp))).drew
    · try simp only [World.cell?_drew]
      rw [co hne]; exact W0.out
    · try simp only [World.cell?_drew]
      exact cs W2.out
    · try simp only [World.frozen?_drew]
      rw [fz]; exact W3.out
set_option maxRecDepth 100000 in
set_option maxHeartbeats 2000000 in
theorem inv_step (N k x : Nat) (w : World) (h : Chn N (k + 1 + 1) x w) (IH : Calls Try.prog 28 #[pN (N + (k + 1))] w fun e w' => e = .returned (.iface 30 (pN N)) ∧ Done N (k + 1) x w w') : Calls Try.prog 28 #[pN (N + (k + 1 + 1))] w fun e w' => e = .returned (.iface 30 (pN N)) ∧ Done N (k + 1 + 1) x w w' := by
  obtain ⟨c1, f1⟩ := h.inv (k + 1 + 1) (by omega) (by omega)
  have HI := Lib.hid IH
  clear IH
  have st := st_fl
  have M30 := m30; have M33 := m33; have TA := ta30
  have F1 := Lib.hid f1
  have C1 : Hid (w.cell? ⟨N + (k + 1 + 1), 0, none⟩ = some (.iface 33 (pN (N + (k + 1))))) := Lib.hid c1
  clear h c1 f1
  generalize hBk : N + (k + 1 + 1) = Bk at *
  have HBk := Lib.hid hBk
  clear hBk
  have cb := C1.out
  go_enter Try.func28, Try.ntmps28
  go_upto_region 2 with (go_at_call 28; (with_reducible refine HI.out.mono ?_); rintro e u ⟨rfl, hd⟩; have HD := Lib.hid hd; clear hd cb; have cu : u.cell? ⟨Bk, 0, none⟩ = some (.iface 33 (pN (N + (k + 1)))) := HD.out.kp.cell C1.out (fun q => by have := HBk.out; have := q.2; simp at this; omega); have fu : u.frozen? ⟨Bk, 0, none⟩ = false := HD.out.kp.froz C1.out F1.out (fun q => by have := HBk.out; have := q.2; simp at this; omega))
  refine wp_gen fun W hW => ?_
  have hne : (⟨Bk, 0, none⟩ : Addr) ≠ ⟨N, 0, none⟩ := fun e => by injection e with e; have := HBk.out; omega
  have hne1 : (⟨Bk, 0, none⟩ : Addr) ≠ ⟨N, 1, none⟩ := fun e => by injection e with e; have := HBk.out; omega
  obtain ⟨y, hIt, hy⟩ := HD.out.ex
  have w0 : W.cell? ⟨Bk, 0, none⟩ = some (.iface 30 (pN N)) := by rw [hW]; exact cs cu
  have w1 : W.cell? ⟨N, 0, none⟩ = some (.string ⟨#[]⟩) := by rw [hW, co hne]; exact HD.out.n0
  have w2 : W.cell? ⟨N, 1, none⟩ = some (.float .f64 y) := by rw [hW, co hne1]; exact hy
  have w3 : W.frozen? ⟨N, 1, none⟩ = false := by rw [hW, fz]; exact HD.out.f1
  have hk : Hid (Kp (fun b => N ≤ b ∧ b ≤ N + ((k + 1) + 1)) w W) := Lib.hid (by rw [hW]; exact (HD.out.kp.wide fun b q => ⟨q.1, by omega⟩).set _ _ (.inl (by have := HBk.out; simp; omega)))
  clear hW cu fu hy hne hne1
  obtain ⟨g, ⟨d, hrun⟩, hg⟩ := rc_run y
  have HG := Lib.hid hg
  have HIt := Lib.hid hIt
  have W0 := Lib.hid w1
  have W2 := Lib.hid w2
  have W3 := Lib.hid w3
  clear hg hIt
  cases d
  all_goals
    simp only [if_true, Bool.false_eq_true, if_false] at hrun
    go_wp2
    go_ret
    have hne : (⟨N, 1, none⟩ : Addr) ≠ ⟨N, 0, none⟩ := fun e => by injection e with _ e; omega
    refine ⟨rfl, ?_, ?_, ⟨g W, ⟨y, HIt.out, HG.out W⟩, ?_⟩, ?_⟩
    · first | exact hk.out.set _ _ (.inl (by simp)) | exact hk.out.drew.set _ _ (.inl (by simp)) | exact (hk.out.set _ _ (.inl (by simp))).drew
    · try simp only [World.cell?_drew]
      rw [co hne]; exact W0.out
    · try simp only [World.cell?_drew]
      exact cs W2.out
    · try simp only [World.frozen?_drew]
      rw [fz]; exact W3.out
theorem inv_c (N x : Nat) : ∀ (k : Nat) (w : World), Chn N (k + 1) x w → Calls Try.prog 28 #[pN (N + (k + 1))] w fun e w' => e = .returned (.iface 30 (pN N)) ∧ Done N (k + 1) x w w'
  | 0, w, h => inv_base N x w h
  | k + 1, w, h => inv_step N k x w h (inv_c N x k w ⟨h.n0, h.n1, h.f1, fun i a b => h.inv i a (by omega)⟩)
end Go.Proofs.Ythaakbpdhhamiaa
