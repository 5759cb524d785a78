/- FnDeadRuleManglerFreshForgets: zzBuildComplex. -/
import Derived.Test.YtidmdcadejfjhaaDrb
set_option linter.unusedVariables false
set_option linter.unusedSimpArgs false
namespace Go.Proofs.Ytidmdcadejfjhaa
open Go.RowKit
set_option maxRecDepth 100000
set_option maxHeartbeats 4000000
/-- where the subclass selectors stand after n compounds -/
def jAt (S : Nat → Nat) (p j : Nat) : Nat → Nat
  | 0 => j
  | n + 1 => jAt S p j n + S (p + n) % 4
theorem jAt_le (S : Nat → Nat) (p j : Nat) : ∀ n, jAt S p j n ≤ j + 3 * n
  | 0 => by simp [jAt]
  | n + 1 => by
    have := jAt_le S p j n
    have := Nat.mod_lt (S (p + n)) (show 0 < 4 by omega)
    simp only [jAt]
    omega
/-- what zzBuildComplex makes -/
def cxK (C S T Q : Nat → Nat) (c p j : Nat) : List (List K1) := (List.range (C c % 4)).map (fun q => compK S T Q (p + q) (jAt S p j q))
def CplxP (C S T Q : Nat → Nat) (c p j : Nat) (key0 : Value) (w0 w : World) (m : Nat) (e : Ending) (w' : World) : Prop := ∃ (r : CxR K1) (d : Bool) (key : Value) (cn pn jn : Nat), e = .returned (.tuple #[.agg r.arr, .int .i64 cn, .int .i64 pn, .int .i64 jn, .bool d, key]) ∧ cn = c + 1 ∧ pn = p + C c % 4 ∧ jn = jAt S p j (C c % 4) ∧ GCx G1 (fun b => Ob key b ∨ b ≤ w.heap.size) w' r ∧ r.key = cxK C S T Q c p j ∧ Key w0 w' key (m + 20) ∧ (∀ b, Ob key b → Ob key0 b ∨ w.heap.size ≤ b) ∧ Kp (Ob key0) w w' ∧ Below w0.heap.size w0 w'
def LX (S T Q : Nat → Nat) (p0 j0 : Nat) (key0 : Value) (w0 w : World) (m : Nat) (N : Nat) (p j key comps dead q : Value) (wr : World) : Prop := ∃ (k : Nat) (d : Bool) (ls : List (CpR K1)), k ≤ N ∧ q = .int .i64 k ∧ p = .int .i64 (p0 + k : Nat) ∧ j = .int .i64 (jAt S p0 j0 k : Nat) ∧ dead = .bool d ∧ Key w0 wr key (m + 1 + 4 * k) ∧ (∀ b, Ob key b → Ob key0 b ∨ w.heap.size ≤ b) ∧ wr.ownsRow w.heap.size 84 6 comps k (flat CpR.cells ls) ∧ ls.length = k ∧ (∀ s ∈ ls, GCp G1 (fun b => Ob comps b ∨ (Ob key b ∨ b ≤ w.heap.size)) wr s) ∧ ls.map CpR.key = (List.range k).map (fun q => compK S T Q (p0 + q) (jAt S p0 j0 q)) ∧ Kp (Ob key0) w wr ∧ Below w0.heap.size w0 wr ∧ (∃ xs, wr.ownsRow w.heap.size 50 1 (.slice (some ⟨w.heap.size, 0, none⟩) 1 1) 1 xs)
theorem cplx14_c (A0 A1 A2 A3 : Option Addr) (n0 n1 n2 n3 c0 c1 c2 c3 : Nat) (C S T Q : Nat → Nat) (c p j : Nat) (key : Value) (m : Nat) (w0 w : World) (h0 : Byt w0 A0 n0 C) (h1 : Byt w0 A1 n1 S) (h2 : Byt w0 A2 n2 T) (h3 : Byt w0 A3 n3 Q) (hb : Below w0.heap.size w0 w) (hk : Key w0 w key m) (hm : m ≤ 10000) (hcb : c ≤ 500000) (hpb : p ≤ 500000) (hjb : j ≤ 500000) :
    Calls Try.prog 14 #[.slice A0 n0 c0, .slice A1 n1 c1, .slice A2 n2 c2, .slice A3 n3 c3, .int .i64 c, .int .i64 p, .int .i64 j, key] w (CplxP C S T Q c p j key w0 w m) := by
  have C17 := Lib.hid (fun w' (hb : Below w0.heap.size w0 w') => at17_c A0 n0 c0 C c w' (h0.after hb))
  have C18 := Lib.hid (fun p j key m w' (hb : Below w0.heap.size w0 w') (hk : Key w0 w' key m) (hm : m ≤ 100000) (hj : j ≤ 1000000) => comp18_c A1 A2 A3 n1 n2 n3 c1 c2 c3 S T Q p j key m w0 w' h1 h2 h3 hb hk hm hj)
  clear h0 h1 h2 h3
  obtain ⟨nk, xk, hnk, hk⟩ := hk
  replace hk := Lib.hid hk
  replace hb := Lib.hid hb
  obtain ⟨N, hN, hx4⟩ : ∃ N : Nat, N < 4 ∧ C c % 4 = N := ⟨C c % 4, Nat.mod_lt _ (by omega), rfl⟩
  have hCP : Hid (∀ (r : CxR K1) (d : Bool) (key' : Value) (cn pn jn : Nat) (w' : World), cn = c + 1 → pn = p + N → jn = jAt S p j N → GCx G1 (fun b => Ob key' b ∨ b ≤ w.heap.size) w' r → r.ls.map CpR.key = (List.range N).map (fun q => compK S T Q (p + q) (jAt S p j q)) → Key w0 w' key' (m + 20) → (∀ b, Ob key' b → Ob key b ∨ w.heap.size ≤ b) → Kp (Ob key) w w' → Below w0.heap.size w0 w' → CplxP C S T Q c p j key w0 w m (.returned (.tuple #[.agg r.arr, .int .i64 cn, .int .i64 pn, .int .i64 jn, .bool d, key'])) w') := Lib.hid (fun r d key' cn pn jn w' b1 b2 b3 a1 a2 a3 a4 a5 a6 => by
    subst hx4
    exact ⟨r, d, key', cn, pn, jn, rfl, b1, b2, b3, a1, a2, a3, a4, a5, a6⟩)
  have hx4' : ((C c : Nat) : Int) % 4 = N := by omega
  generalize C c = x at *
  clear hx4
  generalize hQ : CplxP C S T Q c p j key w0 w m = QQ at *
  clear hQ
  go_enter Try.func14, Try.ntmps14
  go_upto_region 1 with fail
  refine wp_gen (fun W hW => ?_)
  have hbW : Below w.heap.size w W := by rw [hW]; exact ba _ _
  have hP : Hid (W.ownsRow w.heap.size 50 1 (.slice (some ⟨w.heap.size, 0, none⟩) 1 1) 1 (CxR.cells (⟨none, 0, []⟩ : CxR K1))) := Lib.hid (by rw [hW]; exact World.ownsRow_lit _ (CxR.arr (⟨none, 0, []⟩ : CxR K1)) 1 (Nat.le_refl _) (by decide) rfl)
  clear hW
  replace hk := Lib.hid (own_below hk.out hbW)
  have hB := Lib.hid (hb.out.trans (hbW.mono hb.out.size))
  have hKP : Hid (Kp (Ob key) w W) := Lib.hid (Kp.of hbW)
  have hwW := hbW.size
  have hw0 := hb.out.size
  clear hbW hb
  go_upto_region 2 with (go_at_call 17; (with_reducible refine (C17.out _ hB.out).mono ?_); rintro e w' ⟨rfl, rfl⟩)
  rw [hx4']
  clear C17 hx4'
  go_upto_region 3 with (at_builtin; go_loud (refine app1n (w := W) (.tmp 32) (.tmp 34) 51 3 w0.heap.size 1 8 #[.int .i64 0] #[.int .i64 N] _ nk _ rfl rfl rfl rfl rfl Try.underlying51 info3 rfl (by omega) hk.out rfl (int1 _) (by omega) (by omega) hB.out.size ?_); intro key1 W1 hk1 hkp hnew; replace hkp := Lib.hid hkp; replace hk1 := Lib.hid hk1; replace hnew := Lib.hid hnew)
  have hK1 : Hid (Key w0 W1 key1 (m + 1)) := Lib.hid ⟨nk + 1, _, by omega, hk1.out⟩
  have hnk1 : Hid (∀ b, Ob key1 b → Ob key b ∨ w.heap.size ≤ b) := Lib.hid (fun b q => (hnew.out b q).imp id (fun q => by omega))
  have hBW : Below w0.heap.size W W1 := hkp.out.below hB.out.size (fun b e => (hk.out.lt b e).1)
  have hKP1 : Hid (Kp (Ob key) w W1) := Lib.hid (hKP.out.trans hkp.out)
  replace hP := Lib.hid (hkp.out.own hP.out (own_ne hP.out hk.out (by decide)))
  replace hB := Lib.hid (hB.out.trans hBW)
  have hw1 := hkp.out.size
  clear hBW hkp hk1 hk hKP hnew
  have mk := make0_z (P := Try.prog) #[.pointer none, .slice none 0 0, .slice none 0 0, .int .i32 0, .int .u8 0, .bool false] Try.underlying48 info84 N (by omega) (by omega)
  go_upto_region 4 with fail
  clear mk
  refine wp_gen (fun W2 hW => ?_)
  have hO : Hid (W2.ownsRow w.heap.size 84 6 (.slice (some ⟨W1.heap.size, 0, none⟩) 0 N) 0 (flat CpR.cells ([] : List (CpR K1)))) := Lib.hid (by rw [hW]; exact World.ownsRow_made _ _ _ (by omega) (by unfold maxLen; omega) (by rw [size_madeCells]))
  have hbW : Below W1.heap.size W1 W2 := by rw [hW]; exact ba _ _
  clear hW
  replace hP := Lib.hid (own_below hP.out hbW); replace hK1 := Lib.hid (hK1.out.below hbW); replace hB := Lib.hid (hB.out.trans (hbW.mono hB.out.size)); replace hKP1 := Lib.hid (hKP1.out.trans (Kp.of hbW))
  clear hbW
  have hR : Hid (LX S T Q p j key w0 w m N (.int .i64 p) (.int .i64 j) key1 (.slice (some ⟨W1.heap.size, 0, none⟩) 0 N) (.bool false) (.int .i64 0) W2) := Lib.hid ⟨0, false, [], by omega, rfl, rfl, rfl, rfl, hK1.out, hnk1.out, hO.out, rfl, (fun s h => by simp at h), rfl, hKP1.out, hB.out, _, hP.out⟩
  go_wp2_with fail
  go_loopw [5, 6, 7, 23, 24, 25] (fun p1 j1 key1 comps dead q wr => LX S T Q p j key w0 w m N p1 j1 key1 comps dead q wr) (fun _ _ _ _ _ q _ => N - (intOf q).toNat)
  case atStart => exact hR.out
  case round =>
    clear hR hK1 hO hKP1 hB hP hnk1
    obtain ⟨k, d, ls, hkN, rfl, rfl, rfl, rfl, hK, hnk, hO, hll, hG, hmap, hKP, hB, xp, hPr⟩ := hrel
    obtain ⟨Wo, hWo⟩ : ∃ Wo, Wo = wr := ⟨_, rfl⟩
    subst hWo
    replace hPr := Lib.hid hPr; replace hnk := Lib.hid hnk; replace hmap := Lib.hid hmap; replace hll := Lib.hid hll
    replace hK := Lib.hid hK; replace hO := Lib.hid hO; replace hG := Lib.hid hG; replace hKP := Lib.hid hKP; replace hB := Lib.hid hB
    obtain ⟨J, hJ⟩ : ∃ J : Nat, jAt S p j k = J := ⟨_, rfl⟩
    obtain ⟨PP, hPP⟩ : ∃ J : Nat, p + k = J := ⟨_, rfl⟩
    rw [hJ, hPP]
    have hJl : J ≤ 600000 := by have := jAt_le S p j k; omega
    have hPl : PP ≤ 600000 := by omega
    replace hJ := Lib.hid hJ
    replace hPP := Lib.hid hPP
    by_cases hlt : k < N
    · have hp1 : Hid ((PP : Int) + 1 = ((p + (k + 1) : Nat) : Int)) := Lib.hid (by have := hPP.out; omega)
      have hjs : Hid (jAt S p j (k + 1) = J + S PP % 4) := Lib.hid (by rw [jAt, hJ.out, hPP.out])
      go_upto_region 9 with fail
      refine wp_gen (fun Wa hW => ?_)
      have hbW : Below Wo.heap.size Wo Wa := by rw [hW]; exact ba _ _
      have hV : Hid (Wa.ownsRow Wo.heap.size 84 6 (.slice (some ⟨Wo.heap.size, 0, none⟩) 1 1) 1 (CpR.cells (⟨none, 0, []⟩ : CpR K1))) := Lib.hid (by rw [hW]; exact World.ownsRow_lit _ (CpR.arr (⟨none, 0, []⟩ : CpR K1)) 1 (Nat.le_refl _) (by decide) rfl)
      clear hW
      have hKa := Lib.hid (hK.out.below hbW); have hOa := Lib.hid (own_below hO.out hbW); have hGa : Hid (∀ s ∈ ls, GCp G1 (fun b => Ob u23 b ∨ (Ob u7 b ∨ (b ≤ w.heap.size ∨ b = Wo.heap.size))) Wa s) := Lib.hid (fun s hs => GCp.keep G1.keep _ _ _ _ _ (hG.out s hs) (Kc.of_below hbW) (fun b hb q => by rcases q with q | q | q | q <;> first | exact .inl q | exact .inr (.inl q) | exact .inr (.inr q) | omega)); have hKPa := Lib.hid (hKP.out.trans (Kp.of hbW)); have hBa := Lib.hid (hB.out.trans (hbW.mono hB.out.size)); have hPa := Lib.hid (own_below hPr.out hbW)
      have hcl := Lib.hid (fun b (e : Ob u23 b) => (hO.out.lt b e).2)
      have hckl := Lib.hid (fun b (e : Ob u7 b) => by
        obtain ⟨_, _, _, q⟩ := hK.out
        exact (q.lt b e).2)
      have hwo := hKP.out.size
      have hao := hbW.size
      clear hbW hK hO hG hKP hB hPr
      generalize Wo.heap.size = PV at *
      have hVlt : PV < Wa.heap.size := (hV.out.lt PV rfl).2
      obtain ⟨v0, g0, f0⟩ := ownCp hV.out 0 (by omega)
      go_upto_region 11 with (go_at_call 18; (with_reducible refine (C18.out PP J _ _ _ hBa.out hKa.out (by omega) (by omega)).mono ?_); rintro e w1 ⟨r, d2, key2, jn, rfl, hjn, hr, hrk, hK2, hn2, hkp2, hB2⟩; have hkeV := Lib.hid (fun b (e : Ob u7 b) (e2 : b = PV) => (show ¬ (b = PV) by have := hckl.out b e; omega) e2); have hV2 := Lib.hid (hkp2.own hV.out (fun b e e2 => hkeV.out b e2 (by simpa [Ob, Value.ownBlock] using e.symm))); have hkey := hKa.out; obtain ⟨_, _, _, hkey⟩ := hkey; have hO2 := Lib.hid (hkp2.own hOa.out (own_ne hOa.out hkey (by decide))); have hP2 := Lib.hid (hkp2.own hPa.out (own_ne hPa.out hkey (by decide))); clear hkey; replace hr := Lib.hid hr; replace hrk := Lib.hid hrk; replace hK2 := Lib.hid hK2; replace hB2 := Lib.hid hB2; replace hkp2 := Lib.hid hkp2; replace hn2 := Lib.hid hn2; replace hjn := Lib.hid hjn; clear g0 f0; obtain ⟨v0, g0, f0⟩ := ownCp hV2.out 0 (by omega); obtain ⟨v1, g1, f1⟩ := ownCp hV2.out 1 (by omega); obtain ⟨v2, g2, f2⟩ := ownCp hV2.out 2 (by omega); obtain ⟨v3, g3, f3⟩ := ownCp hV2.out 3 (by omega); obtain ⟨v4, g4, f4⟩ := ownCp hV2.out 4 (by omega); obtain ⟨v5, g5, f5⟩ := ownCp hV2.out 5 (by omega))
      clear g0 f0 g1 f1 g2 f2 g3 f3 g4 f4 g5 f5
      have hst := storeCp hV2.out r _ rfl
      have hpv : w.heap.size ≤ PV := by omega
      refine wp_gen (fun W3 hW => ?_)
      rw [← hW] at hst
      clear hW
      have hV3 := Lib.hid hst.1
      have hO3 := Lib.hid (hst.2.own hO2.out (fun b e h => by have := hcl.out b e; omega))
      have hw13 := hst.2.size
      have hwa1 := hkp2.out.size
      have hn3 : Hid (∀ b, Ob key2 b → Ob key b ∨ w.heap.size ≤ b) := Lib.hid (fun b q => by
        rcases hn2.out b q with q | q
        · exact hnk.out b q
        · exact .inr (by omega))
      have hk2V : Hid (∀ b, Ob key2 b → b ≠ PV) := Lib.hid (fun b q e => by
        rcases hn2.out b q with q | q
        · have := hckl.out b q; omega
        · omega)
      have kca3 : Hid (∀ O : Nat → Prop, (∀ b, b < Wa.heap.size → Ob u7 b ∨ b = PV → O b) → Kc O Wa W3) := Lib.hid (fun O hOO a v hc hn => hst.2.cell (hkp2.out.cell hc (fun q => hn (hOO _ (block_lt_of_cell hc) (.inl q)))) (fun q => hn (hOO _ (block_lt_of_cell hc) (.inr q))))
      have hr3 : Hid (GCp G1 (fun b => Ob key2 b ∨ b ≤ Wa.heap.size) W3 r) := Lib.hid (GCp.keep G1.keep _ _ _ _ _ hr.out (Kc.of_kp hst.2 (fun b _ q => .inr (by omega))) (fun _ _ q => q))
      have hK3 := Lib.hid (hK2.out.kp hst.2 (fun b q => hk2V.out b q))
      have hP3 := Lib.hid (hst.2.own hP2.out (fun b e h => own_ne hP2.out hV2.out (by decide) b e (by rw [h]; rfl)))
      have hKP3 : Hid (Kp (Ob key) w W3) := Lib.hid ((hKPa.out.trans' hkp2.out (fun b q hl => by
          rcases hnk.out b q with q | q
          · exact q
          · omega)).trans' hst.2 (fun b e _ => by omega))
      have hB3 := Lib.hid (hB2.out.trans (hst.2.below hB2.out.size (fun b e => by omega)))
      have hw3 := hKP3.out.size
      have e0 := hV3.out.cellAt 0 (by omega); have e1 := hV3.out.cellAt 1 (by omega); have e2 := hV3.out.cellAt 2 (by omega); have e3 := hV3.out.cellAt 3 (by omega); have e4 := hV3.out.cellAt 4 (by omega); have e5 := hV3.out.cellAt 5 (by omega)
      simp only [CpR.cells, CpR.arr, List.getElem?_cons_succ, List.getElem?_cons_zero] at e0 e1 e2 e3 e4 e5
      have hkO : Hid (∀ b, Ob key2 b → ¬ Ob u23 b) := Lib.hid (by
        obtain ⟨_, _, _, q⟩ := hK3.out
        exact own_ne q hO3.out (by decide))
      replace hst := Lib.hid hst
      clear hV2 hO2 hr hK2 hP2 hB2 hKPa hBa hPa hV
      cases d2
      all_goals
        go_wp2_with (at_builtin; go_loud (refine app1n (w := W3) (.tmp 58) (.tmp 60) 48 84 w.heap.size 6 72 #[.pointer none, .slice none 0 0, .slice none 0 0, .int .i32 0, .int .u8 0, .bool false] r.arr _ k _ rfl rfl rfl rfl rfl Try.underlying48 info84 rfl (by omega) hO3.out rfl (CpR.one r) (by omega) (by omega) hw3 ?_); intro comps2 W5 hO5 hkp hnew; replace hkp := Lib.hid hkp; replace hO5 := Lib.hid hO5; replace hnew := Lib.hid hnew)
        have hGn := step_k (GCp.keep G1.keep) (Oth' := fun b => Ob key2 b ∨ b ≤ w.heap.size) hGa.out (kca3.out _ (fun b hb q => by
          rcases q with q | q
          · exact .inr (.inl q)
          · exact .inr (.inr (.inr q)))) (fun b hb q => by
          rcases q with q | q
          · rcases hn2.out b q with q | q
            · exact .inl q
            · omega
          · exact .inr (.inl q)) hr3.out (fun b hb2 q => by
          rcases q with q | q | q
          · have := hcl.out b q
            exact .inr (by omega)
          · exact .inl q
          · exact .inr (by omega)) (by omega) hkp.out hnew.out
        have RR : ∀ d', LX S T Q p j key w0 w m N (.int .i64 ((PP : Int) + 1)) (.int .i64 jn) key2 comps2 (.bool d') (.int .i64 ((k : Int) + 1)) W5 := fun d' => ⟨k + 1, d', ls ++ [r], by omega, by go_num, by rw [hp1.out], by rw [hjs.out, hjn.out], rfl, (hK3.out.kp hkp.out hkO.out).mono (by omega), hn3.out, by rw [← flat_add]; exact hO5.out, by simp [hll.out], hGn, by rw [List.map_append, hmap.out, List.range_succ, List.map_append]; simp [hrk.out, hJ.out, hPP.out], hKP3.out.trans' hkp.out (fun b q hl => by have := (hO3.out.lt b q).1; omega), hB3.out.trans (hkp.out.below hB3.out.size (fun b e => by have := (hO3.out.lt b e).1; omega)), _, hkp.out.own hP3.out (own_ne hP3.out hO3.out (by decide))⟩
        exact ⟨RR _, by simp [intOf]; omega⟩
    · obtain rfl : k = N := by omega
      obtain ⟨a, c', hu, -, -⟩ := own_shape hO.out
      subst hu
      have hc1 : Hid (((c + 1 : Nat) : Int) = (c : Int) + 1) := Lib.hid (by omega)
      have h0 := hPr.out.stored 0 (.slice a k c')
      have hf := hPr.out.frozenAt 0
      obtain ⟨x0, rfl⟩ : ∃ x0, xp = [x0] := by
        have hl := hPr.out.1
        match xp, hl with
        | [x], _ => exact ⟨x, rfl⟩
      have hc := hPr.out.cellAt 0 (by omega)
      simp only [List.getElem?_cons_zero] at hc
      have hst : Hid (Kp (fun b => b = w.heap.size) Wo (Wo.setCell ⟨w.heap.size, 0, none⟩ (.slice a k c'))) := Lib.hid (by have := Kp.grown h0.2; exact this.wide (fun b e => by simpa using e.symm))
      clear h0
      go_wp2_with fail
      have hkP : ∀ b, Ob u7 b → b ≠ w.heap.size := fun b q e => by
        obtain ⟨_, _, _, q'⟩ := hK.out
        exact own_ne q' hPr.out (by decide) b q (by rw [e]; rfl)
      have hsP : ∀ b, Ob (.slice a k c') b → b ≠ w.heap.size := fun b q e => own_ne hO.out hPr.out (by decide) b q (by rw [e]; rfl)
      have hsk : ∀ b, Ob (.slice a k c') b → ¬ Ob u7 b := by
        obtain ⟨_, _, _, q'⟩ := hK.out
        exact own_ne hO.out q' (by decide)
      have hG' := hCP.out ⟨a, c', ls⟩ d u7 (c + 1) PP J (Wo.setCell ⟨w.heap.size, 0, none⟩ (.slice a k c')) rfl hPP.out.symm hJ.out.symm ⟨RCp.keep G1.keep (rcp_of_own (O' := fun b => Ob u7 b ∨ b ≤ w.heap.size) G1.keep hll.out hO.out hG.out (fun b _ q => .inr q) (fun b q q' => by
          have h1 := hsP b q
          have h2 := (hO.out.lt b q).1
          rcases q' with q' | q'
          · exact hsk b q q'
          · omega)) (Kc.of_kp hst.out (fun b _ q => .inr (by omega))) (fun _ _ q => q), by show ls.length ≤ maxLen; rw [hll.out]; unfold maxLen; omega⟩ hmap.out ((hK.out.kp hst.out (fun b q => hkP b q)).mono (by omega)) hnk.out (hKP.out.trans' hst.out (fun b q hl => by omega)) (hB.out.trans (hst.out.below hB.out.size (fun b e => by omega)))
      have harr : (CxR.arr (⟨a, c', ls⟩ : CxR K1)) = #[.slice a k c'] := by show #[Value.slice a ls.length c'] = _; rw [hll.out]
      rw [harr, hc1.out] at hG'
      exact bodyPost_ret (v := .tuple #[.agg #[.slice a k c'], .int .i64 ((c : Int) + 1), .int .i64 PP, .int .i64 J, .bool d, u7]) (by simp [results, Try.results14, go_sem, hc]) rfl hG'
end Go.Proofs.Ytidmdcadejfjhaa
