/- FnSubstituteAmpersandsClosedForm: buildCmps, buildCx, buildCxs. -/
import Derived.Test.YtjigljpodkfchaaFmtSub
set_option linter.unusedVariables false
set_option linter.unusedSimpArgs false
namespace Go.Proofs.YtjigljpodkfchaaFmt
open Go.RowKit
set_option maxRecDepth 100000
set_option maxHeartbeats 4000000
def CmpsP (cs : List Cm) (n : Nat) (w : World) (e : Ending) (w' : World) : Prop := ∃ (a : Option Addr) (c : Nat) (ls : List (CpR ByteArray)), e = .returned (.slice a n c) ∧ w'.ownsRow w.heap.size 40 6 (.slice a n c) n (flat CpR.cells ls) ∧ ls.length = n ∧ (∀ r ∈ ls, GCp G0 (fun b => Ob (.slice a n c) b ∨ b < w.heap.size) w' r) ∧ ls.map CpR.key = cs.map Cm.key ∧ Below w.heap.size w w'
theorem mapt {T K : Type} {f : T → K} {l : List T} {i : Nat} {x : T} (h : l[i]? = some x) : (l.take (i + 1)).map f = (l.take i).map f ++ [f x] := by
  rw [List.take_add_one, h, List.map_append]; rfl
theorem build10_c (cs : List Cm) (a : Option Addr) (cc n : Nat) (hn : cs.length = n) (hn2 : n ≤ 1048576) (hin : ∀ c ∈ cs, c.nm.length ≤ 1048576) (w : World) (h : RM w a cs) : Calls Tryf.prog 10 #[.slice a n cc] w (CmpsP cs n w) := by
  replace h := Lib.hid h
  replace hn := Lib.hid hn
  replace hin := Lib.hid hin
  have mk := make0_z (P := Tryf.prog) #[.pointer none, .slice none 0 0, .slice none 0 0, .int .i32 0, .int .u8 0, .bool false] Tryf.underlying30 info40 n (by omega) (by omega)
  go_enter Tryf.func10, Tryf.ntmps10
  go_upto_region 2 with fail
  clear mk
  refine wp_gen (fun W hW => ?_)
  have hO : Hid (W.ownsRow w.heap.size 40 6 (.slice (some ⟨w.heap.size, 0, none⟩) 0 n) 0 (flat CpR.cells ([] : List (CpR ByteArray)))) := Lib.hid (by rw [hW]; exact World.ownsRow_made _ _ _ (by omega) (by unfold maxLen; omega) (by rw [size_madeCells]))
  have hB : Hid (Below w.heap.size w W) := Lib.hid (by rw [hW]; exact ba _ _)
  clear hW
  go_wp2
  go_loopw [3, 4] (fun o i wr => ∃ (k : Nat) (ls : List (CpR ByteArray)) (a1 : Option Addr) (c1 : Nat), k ≤ n ∧ i = .int .i64 k ∧ o = .slice a1 k c1 ∧ wr.ownsRow w.heap.size 40 6 (.slice a1 k c1) k (flat CpR.cells ls) ∧ ls.length = k ∧ (∀ r ∈ ls, GCp G0 (fun b => Ob (.slice a1 k c1) b ∨ b < w.heap.size) wr r) ∧ ls.map CpR.key = (cs.take k).map Cm.key ∧ Below w.heap.size w wr) (fun _ i _ => n - (intOf i).toNat)
  case atStart => exact ⟨0, [], _, _, by omega, rfl, rfl, hO.out, rfl, (fun s h => by simp at h), rfl, hB.out⟩
  case round =>
    clear hO hB
    obtain ⟨k, ls, a1, c1, hk, rfl, rfl, hO, hll, hG, hkey, hB⟩ := hrel
    obtain ⟨Wr, rfl⟩ : ∃ y, y = wr := ⟨_, rfl⟩
    replace hO := Lib.hid hO; replace hll := Lib.hid hll; replace hG := Lib.hid hG; replace hkey := Lib.hid hkey; replace hB := Lib.hid hB
    by_cases hlt : k < n
    · obtain ⟨x, hx⟩ : ∃ x, cs[k]? = some x := ⟨_, List.getElem?_eq_getElem (by rw [hn.out]; exact hlt)⟩
      obtain ⟨b, o, a', c', rfl, hs, hRN, -, ham⟩ := (h.out.after hB.out) k x hx
      have htk := Lib.hid (mapt (f := Cm.key) hx)
      have hxn := hin.out x (List.mem_of_getElem? hx)
      clear hx
      have C8 := Lib.hid (build8_c x x.cb x.am x.nm _ a' c' rfl rfl hxn ham Wr hRN)
      obtain ⟨d0, d1, d2⟩ := segs3 hs
      have i0 : (0 : Int) ≤ k := by omega
      have i1 : (k : Int) < n := by omega
      have hzr := hB.out.size
      clear hs hRN
      go_wp2_with (first | (go_at_call 8; (with_reducible refine C8.out.mono ?_); rintro e w7 ⟨r, rfl, hrk, hr, b7⟩; replace hr := Lib.hid hr; replace b7 := Lib.hid b7; have hO7 := Lib.hid (own_below hO.out b7.out); have z7 := b7.out.size) | (at_builtin; go_loud (refine app1n (w := w7) (.tmp 14) (.tmp 20) 30 40 w.heap.size 6 72 #[.pointer none, .slice none 0 0, .slice none 0 0, .int .i32 0, .int .u8 0, .bool false] r.arr _ k _ rfl rfl rfl rfl rfl Tryf.underlying30 info40 rfl (by omega) hO7.out rfl (CpR.one r) (by omega) (by omega) (by omega) ?_); intro v2 w8 hO8 hkp hnew; obtain ⟨a8, c8, hu⟩ := own_head hO8; subst hu; replace hO8 := Lib.hid hO8; replace hkp := Lib.hid hkp; replace hnew := Lib.hid hnew))
      have hGn := step_k (GCp.keep G0.keep) (Oth' := fun b => b < w.heap.size) hG.out (Kc.of_below b7.out) (fun _ _ q => q) hr.out (fun b hb q => by
        rcases q with q | q
        · exact (hO.out.lt b q).2
        · show b < Wr.heap.size; omega) z7 hkp.out hnew.out
      exact ⟨⟨k + 1, ls ++ [r], a8, c8, by omega, by go_num, rfl, by rw [← flat_add]; exact hO8.out, by simp [hll.out], hGn, by rw [List.map_append, hkey.out, htk.out]; simp [hrk], hB.out.trans ((b7.out.mono hzr).trans (hkp.out.below (by omega) (fun b q => (hO.out.lt b q).1)))⟩, by simp [intOf] <;> omega⟩
    · obtain rfl : k = n := by omega
      go_wp2
      go_ret
      exact ⟨a1, c1, ls, rfl, hO.out, hll.out, hG.out, by rw [hkey.out, List.take_of_length_le (by rw [hn.out]; exact Nat.le_refl _)], hB.out⟩
def CxP (g : List Cm) (w : World) (e : Ending) (w' : World) : Prop := ∃ r : CxR ByteArray, e = .returned (.agg r.arr) ∧ r.key = g.map Cm.key ∧ GCx G0 (fun b => b < w.heap.size) w' r ∧ Below w.heap.size w w'
theorem build24_c (g : List Cm) (a : Option Addr) (cc n : Nat) (hn : g.length = n) (hn2 : n ≤ 1048576) (hin : ∀ c ∈ g, c.nm.length ≤ 1048576) (w : World) (h : RM w a g) : Calls Tryf.prog 24 #[.agg #[.slice a n cc]] w (CxP g w) := by
  have C10 := Lib.hid (fun w' (hb : Below w.heap.size w w') => build10_c g a cc n hn hn2 hin w' (h.after hb))
  clear h hin hn
  go_enter Tryf.func24, Tryf.ntmps24
  go_upto_region 1 with fail
  refine wp_gen (fun W hW => ?_)
  have bW : Hid (Below w.heap.size w W) := Lib.hid (by rw [hW]; exact (ba _ _).alloc (by simp) _)
  have c0 : W.cell? ⟨w.heap.size, 0, none⟩ = some (.slice a n cc) := by rw [hW]; simp [go_sem]
  have c1 : W.cell? ⟨w.heap.size + 1, 0, none⟩ = some (.slice none 0 0) := by rw [hW]; simp [go_sem]
  have f1 : W.frozen? ⟨w.heap.size + 1, 0, none⟩ = false := by rw [hW]; simp [go_sem]
  clear hW
  have zW : w.heap.size + 1 < W.heap.size := block_lt_of_cell c1
  go_wp2_with (go_at_call 10; (with_reducible refine (C10.out _ bW.out).mono ?_); rintro e w2 ⟨a2, c2, ls, rfl, hO, hl, hG, hk, b2⟩; replace hO := Lib.hid hO; replace hl := Lib.hid hl; replace hG := Lib.hid hG; replace hk := Lib.hid hk; have c1' := ac b2 c1; have f1' := af b2 c1 f1; replace b2 := Lib.hid b2)
  have K : Kp (fun b => b = w.heap.size + 1) w2 (w2.setCell ⟨w.heap.size + 1, 0, none⟩ (.slice a2 n c2)) := (Kp.refl w2).set _ _ (.inl rfl)
  have hF : CxP g w (.returned (.agg (CxR.arr (⟨a2, c2, ls⟩ : CxR ByteArray)))) (w2.setCell ⟨w.heap.size + 1, 0, none⟩ (.slice a2 n c2)) := ⟨_, rfl, hk.out, ⟨RCp.keep G0.keep (rcp_of_own (O' := fun b => b < W.heap.size) G0.keep hl.out hO.out hG.out (fun b _ q => .inr q) (fun b q q' => by have := (hO.out.lt b q).1; omega)) (Kc.of_kp K (fun b _ e => by show b < W.heap.size; omega)) (fun b _ q => by show b < W.heap.size; have : b < w.heap.size := q; omega), by show ls.length ≤ maxLen; rw [hl.out]; unfold maxLen; omega⟩, (bW.out.trans (b2.out.mono bW.out.size)).trans (K.below (by have := bW.out.size; have := b2.out.size; omega) (fun b e => by omega))⟩
  have harr : (CxR.arr (⟨a2, c2, ls⟩ : CxR ByteArray)) = #[.slice a2 n c2] := by show #[Value.slice a2 ls.length c2] = _; rw [hl.out]
  rw [harr] at hF
  exact bodyPost_ret (v := .agg #[.slice a2 n c2]) (by simp [results, Tryf.results24, go_sem, c1']) rfl hF
def CxsP (gs : List (List Cm)) (n : Nat) (w : World) (e : Ending) (w' : World) : Prop := ∃ (a : Option Addr) (c : Nat) (ls : List (CxR ByteArray)), e = .returned (.slice a n c) ∧ RCx G0 (fun b => b < w.heap.size) w' a ls ∧ ls.length = n ∧ ls.map CxR.key = gs.map (List.map Cm.key) ∧ Below w.heap.size w w'
theorem build9_c (gs : List (List Cm)) (a : Option Addr) (cc n : Nat) (hn : gs.length = n) (hn2 : n ≤ 1048576) (hin : ∀ g ∈ gs, g.length ≤ 1048576 ∧ ∀ c ∈ g, c.nm.length ≤ 1048576) (w : World) (h : RX w a gs) : Calls Tryf.prog 9 #[.slice a n cc] w (CxsP gs n w) := by
  replace h := Lib.hid h
  replace hn := Lib.hid hn
  replace hin := Lib.hid hin
  have mk := make0_z (P := Tryf.prog) #[.slice none 0 0] Tryf.underlying42 info110 n (by omega) (by omega)
  simp only [Nat.mul_one] at mk
  go_enter Tryf.func9, Tryf.ntmps9
  go_upto_region 2 with fail
  clear mk
  refine wp_gen (fun W hW => ?_)
  have hO : Hid (W.ownsRow w.heap.size 110 1 (.slice (some ⟨w.heap.size, 0, none⟩) 0 n) 0 (flat CxR.cells ([] : List (CxR ByteArray)))) := Lib.hid (by rw [hW]; exact World.ownsRow_made _ _ _ (by omega) (by unfold maxLen; omega) (by rw [size_madeCells]; omega))
  have hB : Hid (Below w.heap.size w W) := Lib.hid (by rw [hW]; exact ba _ _)
  clear hW
  go_wp2
  go_loopw [3, 4] (fun o i wr => ∃ (k : Nat) (ls : List (CxR ByteArray)) (a1 : Option Addr) (c1 : Nat), k ≤ n ∧ i = .int .i64 k ∧ o = .slice a1 k c1 ∧ wr.ownsRow w.heap.size 110 1 (.slice a1 k c1) k (flat CxR.cells ls) ∧ ls.length = k ∧ (∀ r ∈ ls, GCx G0 (fun b => Ob (.slice a1 k c1) b ∨ b < w.heap.size) wr r) ∧ ls.map CxR.key = (gs.take k).map (List.map Cm.key) ∧ Below w.heap.size w wr) (fun _ i _ => n - (intOf i).toNat)
  case atStart => exact ⟨0, [], _, _, by omega, rfl, rfl, hO.out, rfl, (fun s h => by simp at h), rfl, hB.out⟩
  case round =>
    clear hO hB
    obtain ⟨k, ls, a1, c1, hk, rfl, rfl, hO, hll, hG, hkey, hB⟩ := hrel
    obtain ⟨Wr, rfl⟩ : ∃ y, y = wr := ⟨_, rfl⟩
    replace hO := Lib.hid hO; replace hll := Lib.hid hll; replace hG := Lib.hid hG; replace hkey := Lib.hid hkey; replace hB := Lib.hid hB
    by_cases hlt : k < n
    · obtain ⟨x, hx⟩ : ∃ x, gs[k]? = some x := ⟨_, List.getElem?_eq_getElem (by rw [hn.out]; exact hlt)⟩
      obtain ⟨b, o, a', c', rfl, hc, hRM, -⟩ := (h.out.after hB.out) k x hx
      have htk := Lib.hid (mapt (f := List.map Cm.key) hx)
      obtain ⟨hx1, hx2⟩ := hin.out x (List.mem_of_getElem? hx)
      clear hx
      have C24 := Lib.hid (build24_c x a' c' _ rfl hx1 hx2 Wr hRM)
      have i0 : (0 : Int) ≤ k := by omega
      have i1 : (k : Int) < n := by omega
      have hzr := hB.out.size
      clear hRM hx2
      go_wp2_with (first | (go_at_call 24; (with_reducible refine C24.out.mono ?_); rintro e w7 ⟨r, rfl, hrk, hr, b7⟩; replace hr := Lib.hid hr; replace b7 := Lib.hid b7; have hO7 := Lib.hid (own_below hO.out b7.out); have z7 := b7.out.size) | (at_builtin; go_loud (refine app1n (w := w7) (.tmp 14) (.tmp 20) 42 110 w.heap.size 1 24 #[.slice none 0 0] r.arr _ k _ rfl rfl rfl rfl rfl Tryf.underlying42 info110 rfl (by omega) hO7.out rfl (CxR.one r) (by omega) (by omega) (by omega) ?_); intro v2 w8 hO8 hkp hnew; obtain ⟨a8, c8, hu⟩ := own_head hO8; subst hu; replace hO8 := Lib.hid hO8; replace hkp := Lib.hid hkp; replace hnew := Lib.hid hnew))
      have hGn := step_k (GCx.keep G0.keep) (Oth' := fun b => b < w.heap.size) hG.out (Kc.of_below b7.out) (fun _ _ q => q) hr.out (fun b hb q => by
        rcases q with q | q
        · exact (hO.out.lt b q).2
        · show b < Wr.heap.size; omega) z7 hkp.out hnew.out
      exact ⟨⟨k + 1, ls ++ [r], a8, c8, by omega, by go_num, rfl, by rw [← flat_add]; exact hO8.out, by simp [hll.out], hGn, by rw [List.map_append, hkey.out, htk.out]; simp [hrk], hB.out.trans ((b7.out.mono hzr).trans (hkp.out.below (by omega) (fun b q => (hO.out.lt b q).1)))⟩, by simp [intOf] <;> omega⟩
    · obtain rfl : k = n := by omega
      go_wp2
      go_ret
      exact ⟨a1, c1, ls, rfl, rcx_of_own G0.keep hll.out hO.out hG.out (fun b _ q => .inr q) (fun b q q' => by have := (hO.out.lt b q).1; have : b < w.heap.size := q'; omega), hll.out, by rw [hkey.out, List.take_of_length_le (by rw [hn.out]; exact Nat.le_refl _)], hB.out⟩
end Go.Proofs.YtjigljpodkfchaaFmt
