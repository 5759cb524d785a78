/- FnSubstituteAmpersandsClosedForm: a compound without '&' and with plain subclass selectors: it is appended as it is. -/
import Derived.Test.YtjigljpodkfchaaFmtSug
set_option linter.unusedVariables false
set_option linter.unusedSimpArgs false
namespace Go.Proofs.YtjigljpodkfchaaFmt
open Go.RowKit
set_option maxRecDepth 100000
set_option maxHeartbeats 4000000
theorem ta125 (p : Value) (W : World) : (Instr.typeAssert (.iface 125 p) 103 116 true).run Tryf.prog W = .ok (.tuple #[.pointer none, .bool false]) W := by kernel_rfl
theorem ta116 (p : Value) (W : World) : (Instr.typeAssert (.iface 116 p) 103 116 true).run Tryf.prog W = .ok (.tuple #[p, .bool true]) W := by kernel_rfl
def S0P {K : Type} (rs : List (CpR K)) (r : CpR K) (base n : Nat) (v : Value) (w : World) (e : Ending) (w' : World) : Prop := ∃ a c, e = .returned (.slice a (n + 1) c) ∧ w'.ownsRow base 40 6 (.slice a (n + 1) c) (n + 1) (flat CpR.cells (rs ++ [r])) ∧ Kp (Ob v) w w' ∧ (∀ b, Ob (.slice a (n + 1) c) b → Ob v b ∨ w.heap.size ≤ b)
theorem sub0_c {K : Type} (p F : Value) (st : Int) (r : CpR K) (w : World) (hnn : r.nn = 0) (ht : ∀ s ∈ r.ls, s.t = 125) (hrow : ∀ i s, r.ls[i]? = some s → ∃ g, r.a = some ⟨g, 0, none⟩ ∧ Seg w g (i * 3) s.cells) (hl : r.ls.length ≤ 16777216) (base n : Nat) (v : Value) (rs : List (CpR K)) (hO : w.ownsRow base 40 6 v n (flat CpR.cells rs)) (hn : n ≤ 1048576) (hb : base ≤ w.heap.size) : Calls Tryf.prog 20 #[p, .agg r.arr, F, v, .int .u8 st] w (S0P rs ⟨r.a, r.c, r.ls, none, 0, 0, r.cb⟩ base n v w) := by
  obtain ⟨a, c, ls, nx, nn, nc, cb⟩ := r
  simp only at hnn ht hrow hl
  subst hnn
  obtain ⟨va, vc, rfl⟩ := own_head hO
  obtain ⟨m, hm⟩ : ∃ m, ls.length = m := ⟨_, rfl⟩
  have hCQ : Hid (∀ (a' : Option Addr) (c' : Nat) W, W.ownsRow base 40 6 (.slice a' (n + 1) c') (n + 1) (flat CpR.cells rs ++ [.pointer none, .slice a m c, .slice none 0 0, .int .i32 0, .int .u8 cb, .bool false]) → Kp (Ob (.slice va n vc)) w W → (∀ b, Ob (.slice a' (n + 1) c') b → Ob (.slice va n vc) b ∨ w.heap.size ≤ b) → S0P rs (⟨a, c, ls, none, 0, 0, cb⟩ : CpR K) base n (.slice va n vc) w (.returned (.slice a' (n + 1) c')) W) := Lib.hid (fun a' c' W h1 h2 h3 => ⟨a', c', rfl, by rw [← flat_add]; show World.ownsRow W base 40 6 _ _ (flat CpR.cells rs ++ [.pointer none, .slice a ls.length c, .slice none 0 0, .int .i32 0, .int .u8 cb, .bool false]); rw [hm]; exact h1, h2, h3⟩)
  show Calls Tryf.prog 20 #[p, .agg #[.pointer none, .slice a ls.length c, .slice nx 0 nc, .int .i32 0, .int .u8 cb, .bool false], F, .slice va n vc, .int .u8 st] w (S0P rs (⟨a, c, ls, none, 0, 0, cb⟩ : CpR K) base n (.slice va n vc) w)
  generalize S0P rs (⟨a, c, ls, none, 0, 0, cb⟩ : CpR K) base n (.slice va n vc) w = QQ at *
  rw [hm] at hl ⊢
  replace hm := Lib.hid hm
  replace hrow := Lib.hid hrow
  replace ht := Lib.hid ht
  replace hO := Lib.hid hO
  go_enter Tryf.func20, Tryf.ntmps20
  go_upto_region 1 with fail
  refine wp_gen (fun W hW => ?_)
  have bW : Hid (Below w.heap.size w W) := Lib.hid (by rw [hW]; exact ba _ _)
  have sP : Hid (Seg W w.heap.size 0 [.pointer none, .slice a m c, .slice nx 0 nc, .int .i32 0, .int .u8 cb, .bool false]) := Lib.hid (by rw [hW]; exact Seg.new _ _ _)
  have rP : Hid (Room W w.heap.size 6) := Lib.hid (by rw [hW]; exact Room.newN _ _ rfl _)
  have zW : W.heap.size = w.heap.size + 1 := by rw [hW]; simp
  clear hW
  have hsP := segs6 sP.out
  simp only [Nat.zero_add] at hsP
  obtain ⟨p0, p1, p2, p3, p4, p5⟩ := hsP
  go_wp2
  go_loopw [3, 30] (fun rv i wr => rv = .slice va n vc ∧ i = .int .i64 0 ∧ wr = W) (fun _ _ _ => 0)
  case atStart => exact ⟨rfl, rfl, rfl⟩
  case round =>
    obtain ⟨rfl, rfl, hwr⟩ := hrel
    rw [hwr]
    clear hwr
    obtain ⟨_, _, f2⟩ := rP.out 2 (by omega)
    go_wp2
    go_loopw [147] (fun i wr => ∃ k, k ≤ m ∧ i = .int .i64 k ∧ Kp (fun b => b = w.heap.size) W wr ∧ Seg wr w.heap.size 0 [.pointer none, .slice a m c, .slice none 0 0, .int .i32 0, .int .u8 cb, .bool false]) (fun i _ => m - (intOf i).toNat)
    case atStart => exact ⟨0, by omega, rfl, Kp.set (S := fun b => b = w.heap.size) (Kp.refl W) _ _ (.inl rfl), sP.out.set 2 _ (by simp)⟩
    case round =>
      obtain ⟨k, hk, rfl, hK, hS⟩ := hrel
      obtain ⟨Wr, rfl⟩ : ∃ y, y = wr := ⟨_, rfl⟩
      replace hK := Lib.hid hK; replace hS := Lib.hid hS
      clear p0 p1 p2 p3 p4 p5 f2
      have zr := hK.out.size
      by_cases hlt : k < m
      · obtain ⟨x, hx⟩ : ∃ x, ls[k]? = some x := ⟨_, List.getElem?_eq_getElem (by rw [hm.out]; exact hlt)⟩
        obtain ⟨g, rfl, hsg⟩ := hrow.out k x hx
        have hxt := ht.out x (List.mem_of_getElem? hx)
        clear hx
        obtain ⟨xt, xp, xk⟩ := x
        simp only at hxt
        subst hxt
        have hsg2 := segs3 hsg
        have hgP : g ≠ w.heap.size := by have := hsg.lt; omega
        obtain ⟨d0, d1, d2⟩ := hsg2
        have e0 := hK.out.cell (ac bW.out d0) hgP
        have e1 := hK.out.cell (ac bW.out d1) hgP
        have e2 := hK.out.cell (ac bW.out d2) hgP
        clear d0 d1 d2 hsg
        have i0 : (0 : Int) ≤ k := by omega
        have i1 : (k : Int) < m := by omega
        have tq := fun W' => ta125 xp W'
        go_wp2
        have K9 := (Kp.of (S := fun b => b = w.heap.size) (ba Wr (.cells #[.iface 125 xp, .int .i32 0, .int .i32 0] 107)))
        exact ⟨⟨k + 1, by omega, by go_num, hK.out.trans K9, hS.out.after (ba _ _)⟩, by simp [intOf] <;> omega⟩
      · obtain rfl : k = m := by omega
        have hsS := segs6 hS.out
        simp only [Nat.zero_add] at hsS
        obtain ⟨s0, s1, s2, s3, s4, s5⟩ := hsS
        have hOr : Hid (Wr.ownsRow base 40 6 (.slice va n vc) n (flat CpR.cells rs)) := Lib.hid (hK.out.own (own_below hO.out bW.out) (fun b q e => by have := (hO.out.lt b q).2; omega))
        go_wp2_with (at_builtin; go_loud (refine app1n (w := Wr) (.tmp 201) (.tmp 203) 30 40 base 6 72 #[.pointer none, .slice none 0 0, .slice none 0 0, .int .i32 0, .int .u8 0, .bool false] #[.pointer none, .slice a k c, .slice none 0 0, .int .i32 0, .int .u8 cb, .bool false] _ n _ rfl rfl rfl rfl rfl Tryf.underlying30 info40 rfl (by omega) hOr.out rfl (by simp [Value.oneCell']) (by omega) (by omega) (by omega) ?_); intro v2 w8 hO8 hkp hnew; obtain ⟨a8, c8, hu⟩ := own_head hO8; subst hu; replace hO8 := Lib.hid hO8; replace hkp := Lib.hid hkp; replace hnew := Lib.hid hnew)
        exact hCQ.out _ _ _ hO8.out ((Kp.of bW.out).trans' (((hK.out.wide (S' := fun b => Ob (.slice va n vc) b ∨ b = w.heap.size) (fun _ q => .inr q)).trans (hkp.out.wide (S' := fun b => Ob (.slice va n vc) b ∨ b = w.heap.size) (fun _ q => .inl q)))) (fun b q hb => by rcases q with q | q; exact q; omega)) (fun b q => by
          rcases hnew.out b q with q | q
          · exact .inl q
          · right; omega)
end Go.Proofs.YtjigljpodkfchaaFmt
