/- FnFlattenMatchesStreamModel: comparing rows of groups. -/
import Derived.Test.YtjigljpodkfchadFmb
set_option linter.unusedVariables false
set_option linter.unusedSimpArgs false
namespace Go.Proofs.Ytjigljpodkfchad
open Go.RowKit
set_option maxRecDepth 100000
set_option maxHeartbeats 40000000
/-- a row of groups as it is read -/
def GsRd (w : World) (a : Option Addr) (gs : List Gp) : Prop := ∀ (j : Nat) g, gs[j]? = some g → ∃ b sa sc, a = some ⟨b, 0, none⟩ ∧ Seg w b (j * 5) [.int .u8 g.cb, .string g.ty, .int .i64 g.nn, .slice sa g.ks.length sc, .bool g.we] ∧ ∀ (i : Nat) s, g.ks[i]? = some s → ∃ gb, sa = some ⟨gb, 0, none⟩ ∧ w.cell? ⟨gb, i, none⟩ = some (.string s)
theorem GsR.rd {w : World} {B n c : Nat} {a : Option Addr} {rs : List GR} {gs : List Gp} (h : GsR w B (.slice a n c) rs gs) : GsRd w a gs := fun j g hg => by
  have hj := (List.getElem?_eq_some_iff.1 hg).1
  obtain ⟨r, hr⟩ : ∃ r, rs[j]? = some r := ⟨_, List.getElem?_eq_getElem (by rw [h.2.1]; exact hj)⟩
  obtain ⟨e1, e2, e3, e4, e5⟩ := h.2.2 j r g hr hg
  obtain ⟨sa, sc, es⟩ := own_head e5
  have hown := h.1
  obtain ⟨b, c', eb, -⟩ := own_some hown (by omega)
  injection eb with eb1 eb2 eb3
  subst eb1 eb2
  refine ⟨b, sa, sc, rfl, ?_, fun i s hs => ?_⟩
  · have := own_seg (o := j * 5) (vs := r.cells) hown (fun i v hi => by
      have hj5 : i < 5 := by have := (List.getElem?_eq_some_iff.1 hi).1; simpa [GR.cells] using this
      rw [flat_at GR.cells 5 (fun _ => rfl) rs j i r hr hj5]
      exact hi)
    have e : r.cells = [.int .u8 g.cb, .string g.ty, .int .i64 g.nn, .slice sa g.ks.length sc, .bool g.we] := by
      show [Value.int .u8 r.cb, _, _, _, _] = _
      rw [e1, e2, e3, e4, es]
    rw [e] at this
    exact this
  · rw [es] at e5
    have hi := (List.getElem?_eq_some_iff.1 hs).1
    obtain ⟨gb, c2, eb2, -⟩ := own_some e5 (by omega)
    injection eb2 with eb2
    subst eb2
    refine ⟨gb, rfl, ?_⟩
    have := own_seg (o := 0) (vs := strs g.ks) e5 (fun i v hi => by rw [Nat.zero_add]; exact hi) i (.string s) (by simp [strs, hs])
    rw [Nat.zero_add] at this
    exact this
theorem GsRd.after {w w' : World} {a : Option Addr} {gs : List Gp} (h : GsRd w a gs) (hb : Below w.heap.size w w') : GsRd w' a gs := fun j g hg => by
  obtain ⟨b, sa, sc, e1, e2, e3⟩ := h j g hg
  refine ⟨b, sa, sc, e1, e2.after hb, fun i s hs => ?_⟩
  obtain ⟨gb, q1, q2⟩ := e3 i s hs
  exact ⟨gb, q1, ac hb q2⟩
theorem la_cons {T : Type} (a : T) (l bs : List T) : List.append (a :: l) bs = a :: List.append l bs := rfl
theorem la_nil {T : Type} (bs : List T) : List.append [] bs = bs := rfl
theorem same12_c (gs : List Gp) (n : Nat) (hn : gs.length = n) (hn2 : n ≤ 1048576) (hin : ∀ g ∈ gs, g.ks.length ≤ 1048576) (a b : Option Addr) (c1 c2 : Nat) (w : World) (ha : GsRd w a gs) (hb : GsRd w b gs) : Calls Try.prog 12 #[.slice a n c1, .slice b n c2] w (RetV (.bool true) w) := by
  replace hn := Lib.hid hn; replace hin := Lib.hid hin; replace ha := Lib.hid ha; replace hb := Lib.hid hb
  go_enter Try.func12, Try.ntmps12
  go_upto_region 4 with fail
  go_loopw [5] (fun i wr => ∃ k : Nat, k ≤ n ∧ i = .int .i64 k ∧ Below w.heap.size w wr) (fun i _ => n - (intOf i).toNat)
  case atStart => exact ⟨0, by omega, rfl, Below.refl _ _⟩
  case round =>
    obtain ⟨k, hk, rfl, hB⟩ := hrel
    obtain ⟨W1, rfl⟩ : ∃ y, y = wr := ⟨_, rfl⟩
    replace hB := Lib.hid hB
    by_cases hlt : k < n
    · obtain ⟨g, hg⟩ : ∃ g, gs[k]? = some g := ⟨_, List.getElem?_eq_getElem (by rw [hn.out]; exact hlt)⟩
      obtain ⟨B1, sa1, sc1, rfl, hs1, hk1⟩ := (ha.out.after hB.out) k g hg
      obtain ⟨B2, sa2, sc2, rfl, hs2, hk2⟩ := (hb.out.after hB.out) k g hg
      have hm2 := hin.out g (List.mem_of_getElem? hg)
      clear hg
      obtain ⟨gcb, gty, gnn, gks, gwe⟩ := g
      simp only at hs1 hs2 hk1 hk2 hm2
      obtain ⟨m, hm⟩ : ∃ y, gks.length = y := ⟨_, rfl⟩
      rw [hm] at hs1 hs2 hm2
      obtain ⟨x0, x1, x2, x3, x4⟩ := segs5 hs1
      obtain ⟨y0, y1, y2, y3, y4⟩ := segs5 hs2
      replace hm := Lib.hid hm; replace hk1 := Lib.hid hk1; replace hk2 := Lib.hid hk2
      have i0 : (0 : Int) ≤ k := by omega
      have i1 : (k : Int) < n := by omega
      have qb : (gwe != gwe) = false := by cases gwe <;> rfl
      clear hs1 hs2
      go_upto_region 6 with fail
      replace x0 := fun d os => cell_regrown x0 d os
      replace x1 := fun d os => cell_regrown x1 d os
      replace x2 := fun d os => cell_regrown x2 d os
      have x3k := Lib.hid x3
      replace x3 := fun d os => cell_regrown x3 d os
      replace x4 := fun d os => cell_regrown x4 d os
      replace y0 := fun d os => cell_regrown y0 d os
      replace y1 := fun d os => cell_regrown y1 d os
      replace y2 := fun d os => cell_regrown y2 d os
      have y3k := Lib.hid y3
      replace y3 := fun d os => cell_regrown y3 d os
      replace y4 := fun d os => cell_regrown y4 d os
      simp only [la_cons, la_nil]
      refine drawn_tail 64 (by kernel_rfl) (by kernel_rfl) (by kernel_rfl) (fun Q hQ => ?_)
      simp only [List.take_succ_cons, List.take_zero, List.drop_succ_cons, List.drop_zero]
      repeat (quiet_step (fail))
      refine wpQuiet_nil ?_
      intro W2 hw
      have b2 : Hid (Below W1.heap.size W1 W2) := Lib.hid (by
        obtain ⟨⟨d, os⟩, rfl⟩ := hw
        exact below_regrown _ d os)
      clear hw x0 x1 x2 x3 x4 y0 y1 y2 y3 y4
      replace hB := Lib.hid (hB.out.trans (b2.out.mono hB.out.size))
      have x3 := ac b2.out x3k.out
      have y3 := ac b2.out y3k.out
      replace x3k := Lib.hid x3
      replace y3k := Lib.hid y3
      have hk1' : Hid (∀ (W : World), Below W2.heap.size W2 W → ∀ (i : Nat) s, gks[i]? = some s → ∃ gb, sa1 = some ⟨gb, 0, none⟩ ∧ W.cell? ⟨gb, i, none⟩ = some (.string s)) := Lib.hid (fun W hb i s hs => by
        obtain ⟨gb, e1, e2⟩ := hk1.out i s hs
        exact ⟨gb, e1, ac hb (ac b2.out e2)⟩)
      have hk2' : Hid (∀ (W : World), Below W2.heap.size W2 W → ∀ (i : Nat) s, gks[i]? = some s → ∃ gb, sa2 = some ⟨gb, 0, none⟩ ∧ W.cell? ⟨gb, i, none⟩ = some (.string s)) := Lib.hid (fun W hb i s hs => by
        obtain ⟨gb, e1, e2⟩ := hk2.out i s hs
        exact ⟨gb, e1, ac hb (ac b2.out e2)⟩)
      clear hk1 hk2 b2
      go_wp2
      clear x3 y3
      go_loopw [6] (fun i wr => ∃ j : Nat, j ≤ m ∧ i = .int .i64 j ∧ Below W2.heap.size W2 wr) (fun i _ => m - (intOf i).toNat)
      case atStart => exact ⟨0, by omega, rfl, Below.refl _ _⟩
      case round =>
        obtain ⟨j, hj, rfl, hC⟩ := hrel
        obtain ⟨W3, rfl⟩ : ∃ y, y = wr := ⟨_, rfl⟩
        replace hC := Lib.hid hC
        have x3 := ac hC.out x3k.out
        have y3 := ac hC.out y3k.out
        by_cases hltj : j < m
        · obtain ⟨s, hs⟩ : ∃ s, gks[j]? = some s := ⟨_, List.getElem?_eq_getElem (by rw [hm.out]; exact hltj)⟩
          obtain ⟨gb1, rfl, u1⟩ := hk1'.out W3 hC.out j s hs
          obtain ⟨gb2, rfl, u2⟩ := hk2'.out W3 hC.out j s hs
          clear hs
          have j0 : (0 : Int) ≤ j := by omega
          have j1 : (j : Int) < m := by omega
          have hjn : j ≤ 1048576 := by omega
          go_upto_region 11 with fail
          replace x3 := fun d os => cell_regrown x3 d os
          replace y3 := fun d os => cell_regrown y3 d os
          replace u1 := fun d os => cell_regrown u1 d os
          replace u2 := fun d os => cell_regrown u2 d os
          refine drawn_tail 16 (by kernel_rfl) (by kernel_rfl) (by kernel_rfl) (fun Q hQ => ?_)
          simp only [List.take_succ_cons, List.take_zero, List.drop_succ_cons, List.drop_zero]
          repeat (quiet_step (fail))
          refine wpQuiet_nil ?_
          intro W4 hw
          have b4 : Hid (Below W3.heap.size W3 W4) := Lib.hid (by
            obtain ⟨⟨d, os⟩, rfl⟩ := hw
            exact below_regrown _ d os)
          clear hw x3 y3 u1 u2
          have hCn := Lib.hid (hC.out.trans (b4.out.mono hC.out.size))
          go_wp2
          go_roundw
          case rel => exact ⟨j + 1, by omega, by go_num, hCn.out⟩
          case measure => simp [intOf]; omega
        · obtain rfl : j = m := by omega
          have hBn := Lib.hid (hB.out.trans (hC.out.mono hB.out.size))
          go_wp2
          go_roundw
          case rel => exact ⟨k + 1, by omega, by go_num, hBn.out⟩
          case measure => simp [intOf]; omega
    · obtain rfl : k = n := by omega
      go_wp2
      go_ret
      exact ⟨rfl, hB.out⟩
end Go.Proofs.Ytjigljpodkfchad
