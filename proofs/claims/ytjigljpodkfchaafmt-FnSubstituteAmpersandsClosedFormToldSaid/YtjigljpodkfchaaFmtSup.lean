/- FnSubstituteAmpersandsClosedForm: what the law reads of the answer. -/
import Derived.Test.YtjigljpodkfchaaFmtSuo
set_option linter.unusedVariables false
set_option linter.unusedSimpArgs false
namespace Go.Proofs.YtjigljpodkfchaaFmt
open Go.RowKit
set_option maxRecDepth 100000
set_option maxHeartbeats 4000000
theorem tb125 (p : Value) (W : World) : (Instr.typeAssert (.iface 125 p) 103 125 true).run Tryf.prog W = .ok (.tuple #[p, .bool true]) W := by kernel_rfl
theorem tb116 (p : Value) (W : World) : (Instr.typeAssert (.iface 116 p) 103 125 true).run Tryf.prog W = .ok (.tuple #[.pointer none, .bool false]) W := by kernel_rfl
theorem kind32_0 (p : Value) (w : World) : Calls Tryf.prog 32 #[.agg #[.iface 125 p, .int .i32 0, .int .i32 0]] w (RetV (.int .i64 0) w) := by
  have tq := fun W' => tb125 p W'
  go_enter Tryf.func32, Tryf.ntmps32
  go_wp2
  go_ret
  exact ⟨rfl, ba _ _⟩
theorem kind32_1 (Z : Nat) (v s1 s2 : Value) (w : World) (hs : Seg w Z 0 [v, s1, s2, .int .u8 2]) : Calls Tryf.prog 32 #[.agg #[.iface 116 (.pointer (some ⟨Z, 0, none⟩)), .int .i32 0, .int .i32 0]] w (RetV (.int .i64 1) w) := by
  have tq := fun W' => tb116 (.pointer (some ⟨Z, 0, none⟩)) W'
  have tr := fun W' => ta116 (.pointer (some ⟨Z, 0, none⟩)) W'
  obtain ⟨e0, e1, e2, e3⟩ := segs4 hs
  simp only [Nat.zero_add] at e3
  have e3a := fun o => al e3 o
  clear e0 e1 e2 hs
  go_enter Tryf.func32, Tryf.ntmps32
  go_wp2
  go_ret
  exact ⟨rfl, ba _ _⟩
theorem name33_c (B : Nat) (nm : ByteArray) (w : World) (hc : w.cell? ⟨B, 0, none⟩ = some (.string nm)) : Calls Tryf.prog 33 #[.agg #[.iface 125 (.pointer (some ⟨B, 0, none⟩)), .int .i32 0, .int .i32 0]] w (RetV (.string nm) w) := by
  have tq := fun W' => tb125 (.pointer (some ⟨B, 0, none⟩)) W'
  have e0a := fun o => al hc o
  go_enter Tryf.func33, Tryf.ntmps33
  go_wp2
  go_ret
  exact ⟨rfl, ba _ _⟩
theorem list35_c (Z : Nat) (a : Option Addr) (n c : Nat) (w : World) (hc : w.cell? ⟨Z, 0, none⟩ = some (.slice a n c)) : Calls Tryf.prog 35 #[.agg #[.iface 116 (.pointer (some ⟨Z, 0, none⟩)), .int .i32 0, .int .i32 0]] w (RetV (.slice a n c) w) := by
  have tr := fun W' => ta116 (.pointer (some ⟨Z, 0, none⟩)) W'
  have e0a := fun o => al hc o
  go_enter Tryf.func35, Tryf.ntmps35
  go_wp2
  go_ret
  exact ⟨rfl, ba _ _⟩
/-- from f on lie the pseudo-classes of these names -/
def NmAt (w : World) (a : Option Addr) (f : Nat) (nms : List ByteArray) : Prop := ∀ i nm, nms[i]? = some nm → ∃ g B, a = some ⟨g, 0, none⟩ ∧ Seg w g ((f + i) * 3) [.iface 125 (.pointer (some ⟨B, 0, none⟩)), .int .i32 0, .int .i32 0] ∧ w.cell? ⟨B, 0, none⟩ = some (.string nm)
theorem NmAt.after {w w' : World} {a : Option Addr} {f : Nat} {nms : List ByteArray} (h : NmAt w a f nms) (hb : Below w.heap.size w w') : NmAt w' a f nms := fun i nm hi => by
  obtain ⟨g, B, h1, h2, h3⟩ := h i nm hi
  exact ⟨g, B, h1, h2.after hb, ac hb h3⟩
theorem names25_c (a : Option Addr) (n c f : Nat) (nms : List ByteArray) (m : Nat) (hm : nms.length = m) (na : Option Addr) (nc : Nat) (hf : f + m ≤ n) (hn : n ≤ 16777216) (w : World) (h1 : NmAt w a f nms) (h2 : RN w na nms) : Calls Tryf.prog 25 #[.slice a n c, .int .i64 f, .slice na m nc] w (RetV (.bool true) w) := by
  replace h1 := Lib.hid h1
  replace h2 := Lib.hid h2
  replace hm := Lib.hid hm
  have f0 : (0 : Int) ≤ f := by omega
  have f1 : (f : Int) ≤ n := by omega
  have g0 : decide ((f : Int) < 0) = false := decide_eq_false (by omega)
  have g1 : decide (n < f) = false := decide_eq_false (by omega)
  have g2 : decide ((n : Int) - f < m) = false := decide_eq_false (by omega)
  have f2 : (m : Int) ≤ (n : Int) - f := by omega
  go_enter Tryf.func25, Tryf.ntmps25
  go_wp2
  go_loopw [7] (fun v wr => ∃ i, i ≤ m ∧ v = .int .i64 i ∧ Below w.heap.size w wr) (fun v _ => m - (intOf v).toNat)
  case atStart => exact ⟨0, by omega, rfl, Below.refl _ _⟩
  case round =>
    obtain ⟨i, hi, rfl, hB⟩ := hrel
    obtain ⟨W, rfl⟩ : ∃ y, y = wr := ⟨_, rfl⟩
    replace hB := Lib.hid hB
    by_cases hlt : i < m
    · obtain ⟨x, hx⟩ : ∃ x, nms[i]? = some x := ⟨_, List.getElem?_eq_getElem (by rw [hm.out]; exact hlt)⟩
      obtain ⟨g, B, rfl, hs, hcB⟩ := (h1.out.after hB.out) i x hx
      obtain ⟨b, o, rfl, hc, -⟩ := (h2.out.after hB.out) i x hx
      clear hx
      obtain ⟨j, hj⟩ : ∃ y, f + i = y := ⟨_, rfl⟩
      rw [hj] at hs
      have hij : (f : Int) + (i : Int) = (j : Int) := by omega
      have hwj : IntKind.i64.wrap (j : Int) = (j : Int) := wk64 (by omega) (by omega)
      have j0 : (0 : Int) ≤ j := by omega
      have j1 : (j : Int) < n := by omega
      have i0 : (0 : Int) ≤ i := by omega
      have i1 : (i : Int) < m := by omega
      obtain ⟨d0, d1, d2⟩ := segs3 hs
      have C32 := Lib.hid (kind32_0 (.pointer (some ⟨B, 0, none⟩)) W)
      go_upto_region 8 with (go_at_call 32; (with_reducible refine C32.out.mono ?_); rintro e w7 ⟨rfl, b7⟩; replace b7 := Lib.hid b7)
      have z7 := b7.out.size
      have B7 : Hid (Below w.heap.size w w7) := Lib.hid (hB.out.trans (b7.out.mono hB.out.size))
      have CE : Hid (∀ d os, Calls Tryf.prog 33 #[.agg #[.iface 125 (.pointer (some ⟨B, 0, none⟩)), .int .i32 0, .int .i32 0]] (Sort.grow (redrawn w7 d) os) (RetV (.string x) (Sort.grow (redrawn w7 d) os))) := Lib.hid (fun d os => name33_c B x _ (cell_regrown (ac b7.out hcB) d os))
      have x0 := fun d os => cell_regrown (ac b7.out d0) d os
      have x1 := fun d os => cell_regrown (ac b7.out d1) d os
      have x2 := fun d os => cell_regrown (ac b7.out d2) d os
      have x3 := fun d os => cell_regrown (ac b7.out hc) d os
      clear d0 d1 d2 hs hc hcB
      refine drawn_tail 11 (by kernel_rfl) (by kernel_rfl) (by kernel_rfl) (fun Q hQ => ?_)
      simp only [List.take_succ_cons, List.take_zero, List.drop_succ_cons, List.drop_zero]
      repeat (quiet_step (exact Calls.regrown_of (CE.out _ _)))
      refine wpQuiet_nil ?_
      intro W6 hw
      have b6 : Hid (Below w7.heap.size w7 W6) := Lib.hid (by
        obtain ⟨⟨d, os⟩, rfl⟩ := hw
        exact below_regrown _ d os)
      clear hw x0 x1 x2 x3
      have bw6 := Lib.hid (B7.out.trans (b6.out.mono B7.out.size))
      go_wp2
      go_roundw
      case rel => exact ⟨i + 1, by omega, by go_num, bw6.out⟩
      case measure => simp [intOf]; omega
    · obtain rfl : i = m := by omega
      go_wp2
      go_ret
      exact ⟨rfl, hB.out⟩
end Go.Proofs.YtjigljpodkfchaaFmt
