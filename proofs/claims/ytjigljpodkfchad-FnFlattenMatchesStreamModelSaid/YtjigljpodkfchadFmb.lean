/- FnFlattenMatchesStreamModel: the observer of a complex selector; comparing rows of groups. -/
import Derived.Test.YtjigljpodkfchadFma
set_option linter.unusedVariables false
set_option linter.unusedSimpArgs false
namespace Go.Proofs.Ytjigljpodkfchad
open Go.RowKit
set_option maxRecDepth 100000
set_option maxHeartbeats 40000000
/-- a row of groups of a call's own -/
def GsR (w : World) (B : Nat) (v : Value) (rs : List GR) (gs : List Gp) : Prop := w.ownsRow B 114 5 v gs.length (flat GR.cells rs) ∧ rs.length = gs.length ∧ ∀ (j : Nat) r g, rs[j]? = some r → gs[j]? = some g → GRd w B r g
theorem GsR.after {w w' : World} {B : Nat} {v : Value} {rs : List GR} {gs : List Gp} (h : GsR w B v rs gs) (hb : Below w.heap.size w w') : GsR w' B v rs gs := ⟨own_below h.1 hb, h.2.1, fun j r g hr hg => (h.2.2 j r g hr hg).after hb⟩
theorem GRd.ne {w : World} {B B' : Nat} {r : GR} {g : Gp} {v : Value} {n z : Nat} {xs : List Value} (h : GRd w B r g) (hv : w.ownsRow B' 114 z v n xs) : ∀ b, Ob r.sv b → ¬ Ob v b := own_ne h.2.2.2.2 hv (by decide)
theorem GRd.ones {w : World} {B : Nat} {r : GR} {g : Gp} (h : GRd w B r g) : r.arr.all (·.oneCell') = true := by
  obtain ⟨a, c, e⟩ := own_head h.2.2.2.2
  simp [GR.arr, e, Value.oneCell']
theorem GsR.push {w w7 w8 : World} {B : Nat} {v v' : Value} {rs : List GR} {gs : List Gp} {r : GR} {g : Gp} (h : GsR w B v rs gs) (hb : Below w.heap.size w w7) (hr : GRd w7 B r g) (hO : w8.ownsRow B 114 5 v' (gs.length + 1) (flat GR.cells rs ++ r.cells)) (hk : Kp (Ob v) w7 w8) : GsR w8 B v' (rs ++ [r]) (gs ++ [g]) := by
  have h7 := h.after hb
  refine ⟨by rw [List.length_append]; rw [show flat GR.cells (rs ++ [r]) = flat GR.cells rs ++ r.cells by simp [flat]]; exact hO, by simp [h.2.1], fun j r' g' hr' hg' => ?_⟩
  by_cases hj : j < gs.length
  · rw [List.getElem?_append_left (by rw [h.2.1]; exact hj)] at hr'
    rw [List.getElem?_append_left hj] at hg'
    have := h7.2.2 j r' g' hr' hg'
    exact this.keep hk (this.ne h7.1)
  · have hj2 : j = gs.length := by have := (List.getElem?_eq_some_iff.1 hg').1; simp at this; omega
    subst hj2
    rw [List.getElem?_append_right (by rw [h.2.1]; exact Nat.le_refl _), h.2.1, Nat.sub_self] at hr'
    rw [List.getElem?_append_right (Nat.le_refl _), Nat.sub_self] at hg'
    injection hr' with hr'
    injection hg' with hg'
    subst hr' hg'
    exact hr.keep hk (hr.ne h7.1)
def GsP (gs : List Gp) (w : World) (e : Ending) (w' : World) : Prop := ∃ v rs, e = .returned v ∧ GsR w' w.heap.size v rs gs ∧ Below w.heap.size w w'
/-- a row of compounds as the observer reads it -/
def CsRd (w : World) (a : Option Addr) (l : List (Ck SK × Bool)) : Prop := ∀ (j : Nat) x, l[j]? = some x → ∃ g tv sv nv, a = some ⟨g, 0, none⟩ ∧ Seg w g (j * 6) [tv, sv, nv, .int .i32 0, .int .u8 x.1.cb, .bool x.2] ∧ CpRd w tv sv nv x.1
theorem CsRd.after {w w' : World} {a : Option Addr} {l : List (Ck SK × Bool)} (h : CsRd w a l) (hb : Below w.heap.size w w') : CsRd w' a l := fun j x hx => by
  obtain ⟨g, tv, sv, nv, e1, e2, e3⟩ := h j x hx
  exact ⟨g, tv, sv, nv, e1, e2.after hb, e3.after hb⟩
def gpX (x : Ck SK × Bool) : Gp := gpK x.1 x.2
theorem obs13_c (l : List (Ck SK × Bool)) (n : Nat) (hn : l.length = n) (hn2 : n ≤ 1048576) (hin : ∀ x ∈ l, x.1.ks.length ≤ 1048576 ∧ ∀ y ∈ x.1.ks, SkSz y) (a : Option Addr) (c : Nat) (w : World) (h : CsRd w a l) : Calls Try.prog 13 #[.agg #[.slice a n c]] w (GsP (l.map gpX) w) := by
  have mk := make0_z (P := Try.prog) #[.int .u8 0, .string ⟨#[]⟩, .int .i64 0, .slice none 0 0, .bool false] Try.underlying34 info114 n (by omega) (by omega)
  replace hn := Lib.hid hn; replace hin := Lib.hid hin; replace h := Lib.hid h
  go_enter Try.func13, Try.ntmps13
  go_upto_region 2 with fail
  clear mk
  refine wp_gen (fun W0 hW => ?_)
  have bb : Hid (Below w.heap.size w W0) := Lib.hid (by rw [hW]; exact (ba _ _).alloc (by simp) _)
  have t0 : W0.cell? ⟨w.heap.size, 0, none⟩ = some (.slice a n c) := by rw [hW]; simp [go_sem]
  have hO : Hid (W0.ownsRow w.heap.size 114 5 (.slice (some ⟨w.heap.size + 1, 0, none⟩) 0 n) 0 []) := Lib.hid (by
    rw [hW]
    have := World.ownsRow_made (base := w.heap.size) (e := 114) (size := 5) (w.alloc (.cells #[.slice a n c] 32)) (madeCells #[.int .u8 0, .string ⟨#[]⟩, .int .i64 0, .slice none 0 0, .bool false] (n * 5)) n (by simp) (by unfold maxLen; omega) (by rw [size_madeCells])
    simpa using this)
  clear hW
  obtain ⟨T, hT⟩ : ∃ y, w.heap.size = y := ⟨_, rfl⟩
  obtain ⟨g0, hg0⟩ : ∃ y, T + 1 = y := ⟨_, rfl⟩
  rw [hT, hg0] at hO
  rw [hT] at t0
  rw [hT, hg0]
  have hNew : Hid (¬ Ob (.slice (some ⟨g0, 0, none⟩) 0 n) T) := Lib.hid (fun q => by simp [Ob, Value.ownBlock] at q; omega)
  have hTl : T < W0.heap.size := block_lt_of_cell t0
  replace hT := Lib.hid hT
  have t0' := Lib.hid t0
  clear hg0 t0
  go_wp2
  go_loopw [3, 4] (fun v i wr => ∃ (k : Nat) (va : Option Addr) (vc : Nat) (rs : List GR), k ≤ n ∧ i = .int .i64 k ∧ v = .slice va k vc ∧ GsR wr T (.slice va k vc) rs ((l.take k).map gpX) ∧ wr.cell? ⟨T, 0, none⟩ = some (.slice a n c) ∧ ¬ Ob (.slice va k vc) T ∧ Below w.heap.size w wr) (fun _ i _ => n - (intOf i).toNat)
  case atStart => exact ⟨0, some ⟨g0, 0, none⟩, n, [], by omega, rfl, rfl, ⟨hO.out, rfl, fun j r g hr _ => by simp at hr⟩, t0'.out, hNew.out, bb.out⟩
  case round =>
    clear hO hNew bb t0'
    obtain ⟨k, va, vc, rs, hk, rfl, rfl, hG, t0, hNew, bb⟩ := hrel
    obtain ⟨Wr, rfl⟩ : ∃ y, y = wr := ⟨_, rfl⟩
    replace hG := Lib.hid hG; replace hNew := Lib.hid hNew; replace bb := Lib.hid bb
    by_cases hlt : k < n
    · obtain ⟨x, hx⟩ : ∃ x, l[k]? = some x := ⟨_, List.getElem?_eq_getElem (by rw [hn.out]; exact hlt)⟩
      obtain ⟨g, tv, sv, nv, rfl, hs, hcp⟩ := (h.out.after bb.out) k x hx
      have htk : Hid ((l.take (k + 1)).map gpX = (l.take k).map gpX ++ [gpX x]) := Lib.hid (mapt hx)
      obtain ⟨hx1, hx2⟩ := hin.out x (List.mem_of_getElem? hx)
      have hlk : Hid (((l.take k).map gpX).length = k) := Lib.hid (by rw [List.length_map, List.length_take, hn.out]; omega)
      clear hx
      obtain ⟨xk, xw⟩ := x
      have C26 := Lib.hid (obs26_c xk xw tv sv nv hx1 hx2 Wr hcp)
      obtain ⟨x0, x1, x2, x3, x4, x5⟩ := segs6 hs
      clear hs hcp hx1 hx2
      simp only at x4 x5
      have i0 : (0 : Int) ≤ k := by omega
      have i1 : (k : Int) < n := by omega
      go_wp2_with first | (go_at_call 26; (with_reducible refine C26.out.mono ?_); rintro e W5 ⟨r, rfl, hgr, b5⟩; replace b5 := Lib.hid b5; replace hgr := Lib.hid hgr; have hO5 := Lib.hid (own_below hG.out.1 b5.out); rw [hlk.out] at hO5; have hgr' := Lib.hid (show GRd W5 T r (gpX (xk, xw)) from ⟨hgr.out.1, hgr.out.2.1, hgr.out.2.2.1, hgr.out.2.2.2.1, own_base hgr.out.2.2.2.2 (by have := bb.out.size; have := hT.out; omega)⟩); have hz5 : T ≤ W5.heap.size := by { have := b5.out.size; have := bb.out.size; have := hT.out; omega }; have t0' := ac b5.out t0) | (at_builtin; go_loud (refine app1n (w := W5) (.tmp 16) (.tmp 23) 34 114 T 5 64 #[.int .u8 0, .string ⟨#[]⟩, .int .i64 0, .slice none 0 0, .bool false] r.arr _ k _ rfl rfl rfl rfl rfl Try.underlying34 info114 rfl (by omega) hO5.out rfl hgr'.out.ones (by omega) (by omega) hz5 ?_); intro v8 w8 hO8 hkp hnew; obtain ⟨g8, c8, hu, -⟩ := own_some hO8 (by omega); subst hu; replace hO8 := Lib.hid hO8; replace hkp := Lib.hid hkp; replace hnew := Lib.hid hnew)
      have hP := hG.out.push b5.out hgr'.out (by rw [hlk.out]; exact hO8.out) hkp.out
      rw [← htk.out] at hP
      replace hP := Lib.hid hP
      have t8 := Lib.hid (hkp.out.cell t0' hNew.out)
      have hN8 : Hid (¬ Ob (.slice (some ⟨g8, 0, none⟩) (k + 1) c8) T) := Lib.hid (fun q => by
        rcases hnew.out T q with q | q
        · exact hNew.out q
        · have h1 : T < W5.heap.size := block_lt_of_cell t0'
          omega)
      have b8 := Lib.hid (bb.out.trans ((b5.out.mono bb.out.size).trans (hkp.out.below (by have := b5.out.size; have := bb.out.size; omega) (fun b q => by have := (hG.out.1.lt b q).1; have := hT.out; omega))))
      go_roundw
      case rel => exact ⟨k + 1, some ⟨g8, 0, none⟩, c8, _, by omega, by go_num, rfl, hP.out, t8.out, hN8.out, b8.out⟩
      case measure => simp [intOf]; omega
    · obtain rfl : k = n := by omega
      have hall : l.take k = l := List.take_of_length_le (by rw [hn.out]; exact Nat.le_refl _)
      have hGG : GsR Wr w.heap.size (.slice va k vc) rs (l.map gpX) := by rw [hT.out, ← hall]; have := hG.out; rw [hall] at this ⊢; exact this
      replace hGG := Lib.hid hGG
      go_wp2
      exact bodyPost_ret (v := .slice va k vc) (by simp [results, Try.results13, go_sem]) rfl ⟨_, rs, rfl, hGG.out, bb.out⟩
end Go.Proofs.Ytjigljpodkfchad
