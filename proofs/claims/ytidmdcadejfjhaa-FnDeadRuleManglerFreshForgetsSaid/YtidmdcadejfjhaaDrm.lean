/- FnDeadRuleManglerFreshForgets: the law walked. -/
import Derived.Test.YtidmdcadejfjhaaDrl
set_option linter.unusedVariables false
set_option linter.unusedSimpArgs false
namespace Go.Proofs.Ytidmdcadejfjhaa
open Go.RowKit
set_option maxRecDepth 100000
set_option maxHeartbeats 4000000
theorem MS.init {O : Nat → Prop} {L bm : Nat} {w : World} (hb : w.heap[bm]? = some (.map #[] 0)) (hL : L ≤ bm) (hO : ∀ b, L ≤ b → O b) : MS O L w.heap.size bm none 0 [] (fun _ => ⟨none, 0, []⟩) [] 0 (w.alloc (.cells (zM bm) 39)) := by
  have hlt := (Array.getElem?_eq_some_iff.1 hb).1
  have s := Seg.new w [.map (some bm), .slice none 0 0, .slice none 0 0, .slice none 0 0, .slice none 0 0, .int .u32 0, .int .u32 0] 39
  have hno : ∀ h b, ¬ Ob (ERow.v ((fun _ => ⟨none, 0, []⟩ : Int → ERow) h)) b := fun h b q => by simp [Ob, Value.ownBlock, ERow.v] at q
  exact {
    c0 := s 0 _ rfl
    c1 := s 1 _ rfl
    room := Room.new w (zM bm) 39
    calls := World.ownsRow_nil _ _ _ _
    map := ⟨.map [], ⟨#[], 0, by
      have h2 := (ba w (.cells (zM bm) 39)).block bm hlt
      rw [h2]; exact hb, ⟨by simp, Go.MapKept.stamped_empty 0, by simp⟩, Nat.le_refl _, rfl⟩, fun h _ _ => rfl⟩
    rows := fun h => World.ownsRow_nil _ _ _ _
    apart := fun h h' _ b q => (hno h b q).elim
    data := fun h e he => by simp at he
    seen := fun key => by simp
    len := fun h => Nat.zero_le _
    oR := hO _ (by omega)
    oM := hO _ hL
    oC := fun b q => by simp [Ob, Value.ownBlock] at q
    oE := fun h b q => (hno h b q).elim
    lR := by omega
    lM := hL
    nM := by omega
    nC := fun b q => by simp [Ob, Value.ownBlock] at q
    nE := fun h b q => (hno h b q).elim }
def d0 : RlR := ⟨0, 0, none, 0, []⟩
theorem getD_some {ls : List RlR} {j : Nat} (h : j < ls.length) : ls[j]? = some (ls.getD j d0) := by
  rw [List.getD_eq_getElem?_getD, List.getElem?_eq_getElem h]; rfl
theorem RowRl.of_own {w : World} {B g n c : Nat} {ls : List RlR} (h : w.ownsRow B 59 2 (.slice (some ⟨g, 0, none⟩) n c) n (flat RlR.cells ls)) (hl : ls.length = n) : RowRl w g n (fun j => ls.getD j d0) := by
  have hxl := h.1
  refine ⟨fun j hj i v hi => own_at RlR.len h (getD_some (by omega)) hi, fun j hj => ?_⟩
  have hj2 : j < (flat RlR.cells ls).length := by rw [hxl]; omega
  exact ⟨_, by rw [h.cellAt j hj]; exact List.getElem?_eq_getElem hj2, h.frozenAt j⟩
/-- the key of the rule j -/
def kyF (R C S T Q : Nat → Nat) (j : Nat) : KeyR := rlK C S T Q (rSt R C S j) (R j % 4)
theorem key_at {R C S T Q : Nat → Nat} {n : Nat} {ls : List RlR} (h : ls.map RlR.key = rulesK R C S T Q n) (hl : ls.length = n) (j : Nat) (hj : j < n) : (ls.getD j d0).key = kyF R C S T Q j := by
  have e : (ls.map RlR.key)[j]? = (rulesK R C S T Q n)[j]? := by rw [h]
  rw [List.getElem?_map, getD_some (by omega), rulesK, List.getElem?_map, List.getElem?_range hj] at e
  simpa [kyF] using e
theorem loc_at {n : Nat} {ls : List RlR} (h : ls.map RlR.loc = (List.range n).map (fun (i : Nat) => (i : Int))) (hl : ls.length = n) (j : Nat) (hj : j < n) : (ls.getD j d0).loc = j := by
  have e : (ls.map RlR.loc)[j]? = ((List.range n).map (fun (i : Nat) => (i : Int)))[j]? := by rw [h]
  rw [List.getElem?_map, getD_some (by omega), List.getElem?_map, List.getElem?_range hj] at e
  simpa using e
theorem stp_lt (K : Nat → KeyR) (n : Nat) (S : List KeyR) : ∀ m, m ≤ n → ∀ x ∈ (stp K n S m).2, x < n
  | 0, _, x, hx => by simp [stp] at hx
  | m + 1, hm, x, hx => by
    rw [stp] at hx
    split at hx
    · exact stp_lt K n S m (by omega) x hx
    · rcases List.mem_cons.1 hx with rfl | hx
      · omega
      · exact stp_lt K n S m (by omega) x hx
/-- where the kept ones stand -/
theorem LM.locs {O : Nat → Prop} {L Rm bm : Nat} {ca : Option Addr} {cc : Nat} {sis : List Int} {S : List KeyR} {N g n : Nat} {ls : List RlR} {w : World} {s : Nat} {E : Int → ERow} {F : Nat → RlR} {Nm : Nat} {wr : World} {a' : Option Addr} (h : LM O L Rm bm ca cc sis S N g n (fun j => ls.getD j d0) w n s E F Nm wr) (hl : ls.length = n) (hloc : ls.map RlR.loc = (List.range n).map (fun (i : Nat) => (i : Int))) (ha : s < n → a' = some ⟨g, s * 2, none⟩) (K : Nat → KeyR) (hK : ∀ j, j < n → (ls.getD j d0).key = K j) (len : Nat) (hlen : (stp K n S n).2.length = len) : RLo wr a' len (fun k => ((stp K n S n).2.getD k 0 : Nat)) := fun i hi => by
  have e := stp_congr (S := S) hK n (Nat.le_refl _)
  have hls := h.ls
  rw [e, hlen] at hls
  have hx : (stp K n S n).2[i]? = some ((stp K n S n).2.getD i 0) := by rw [List.getD_eq_getElem?_getD, List.getElem?_eq_getElem (by omega)]; rfl
  have hF := h.out i _ (by rw [e]; exact hx)
  have hlt := stp_lt K n S n (Nat.le_refl _) _ (List.mem_of_getElem? hx)
  have hc := h.row.1 (s + i) (by omega) 1 _ rfl
  rw [hF, loc_at hloc hl _ hlt] at hc
  refine ⟨g, s * 2, ha (by omega), ?_⟩
  rw [show s * 2 + i * 2 + 1 = (s + i) * 2 + 1 by omega]
  exact hc
theorem RLo.kp {w w' : World} {A : Option Addr} {n : Nat} {f : Nat → Int} {T : Nat → Prop} (h : RLo w A n f) (hg : ∀ b o, A = some ⟨b, o, none⟩ → ¬ T b) (hk : Kp T w w') : RLo w' A n f := fun i hi => by
  obtain ⟨b, o, e, hc⟩ := h i hi
  exact ⟨b, o, e, hk.cell hc (hg b o e)⟩
theorem law3_c (A0 A1 A2 A3 A4 : Option Addr) (n0 n1 n2 n3 n4 c0 c1 c2 c3 c4 : Nat) (R C S T Q : Nat → Nat) (w : World) (h0 : Byt w A0 n0 R) (h1 : Byt w A1 n1 C) (h2 : Byt w A2 n2 S) (h3 : Byt w A3 n3 T) (h4 : Byt w A4 n4 Q) : Calls Try.prog 3 #[.slice A0 n0 c0, .slice A1 n1 c1, .slice A2 n2 c2, .slice A3 n3 c3, .slice A4 n4 c4] w (RetV (.bool true) w) := by
  have m0 := h0.le; have m1 := h1.le; have m2 := h2.le; have m3 := h3.le; have m4 := h4.le
  have C5 := Lib.hid (zz5_c A0 A1 A2 A3 A4 n0 n1 n2 n3 n4 c0 c1 c2 c3 c4 w (by unfold maxLen; omega) (by unfold maxLen; omega) (by unfold maxLen; omega) (by unfold maxLen; omega) (by unfold maxLen; omega))
  have C6 := Lib.hid (fun hs => big6_c A0 A1 A2 A3 A4 n0 n1 n2 n3 n4 c0 c1 c2 c3 c4 w hs)
  have C7 := Lib.hid (fun w' (hb : Below w.heap.size w w') (hn : n0 ≤ 4096) => rules7_c A0 A1 A2 A3 A4 n0 n1 n2 n3 n4 c0 c1 c2 c3 c4 R C S T Q w' (h0.after hb) (h1.after hb) (h2.after hb) (h3.after hb) (h4.after hb) hn)
  clear h0 h1 h2 h3 h4
  go_enter Try.func3, Try.ntmps3
  go_upto_region 3 with (go_at_call 5; (with_reducible refine C5.out.mono ?_); rintro e w' ⟨b, rfl, hb, rfl⟩; replace hb := Lib.hid hb; cases b)
  · go_ret
    first | exact ⟨rfl, Below.refl _ _⟩ | exact ⟨trivial, Below.refl _ _⟩
  have hs := Lib.hid (hb.out (by simp))
  clear hb C5
  go_upto_region 5 with (go_at_call 6; (with_reducible refine (C6.out hs.out).mono ?_); rintro e w' ⟨b, rfl, hb, rfl⟩; replace hb := Lib.hid hb; cases b)
  rotate_left
  · go_ret
    first | exact ⟨rfl, Below.refl _ _⟩ | exact ⟨trivial, Below.refl _ _⟩
  have hn := Lib.hid (hb.out (by simp))
  clear hb C6 hs
  go_upto_region 6 with (go_at_call 7; (with_reducible refine (C7.out w (Below.refl _ _) hn.out).mono ?_); rintro e w1 ⟨g1, cp1, ky1, dd1, ls1, rfl, hO1, hl1, hG1, hk1, hc1, hb1⟩; replace hO1 := Lib.hid hO1; replace hl1 := Lib.hid hl1; replace hG1 := Lib.hid hG1; replace hk1 := Lib.hid hk1; replace hc1 := Lib.hid hc1; replace hb1 := Lib.hid hb1)
  go_upto_region 7 with (go_at_call 8; (with_reducible refine (mk8_c _).mono ?_); rintro e w2 ⟨bm1, rfl, hlb, hmb, hb2⟩; replace hlb := Lib.hid hlb; replace hmb := Lib.hid hmb; replace hb2 := Lib.hid hb2)
  refine wp_gen (fun w3 hW => ?_)
  have hM3 : Hid (MS (fun b => b = g1 ∨ w1.heap.size ≤ b) w1.heap.size w2.heap.size bm1 none 0 [] (fun _ => ⟨none, 0, []⟩) [] 0 w3) := Lib.hid (by rw [hW]; exact MS.init hmb.out hlb.out (fun b q => .inr q))
  have hb3 : Hid (Below w2.heap.size w2 w3) := Lib.hid (by rw [hW]; exact ba _ _)
  clear hW
  have z01 := hb1.out.size; have z12 := hb2.out.size; have z23 := hb3.out.size
  have hb13 := Lib.hid (hb2.out.trans (hb3.out.mono z12))
  have hg1 : w.heap.size ≤ g1 ∧ g1 < w1.heap.size := hO1.out.lt g1 rfl
  have hcp1 : n0 ≤ cp1 := by
    obtain ⟨_, _, he, hnc, hcm⟩ := own_shape hO1.out
    simp only [Value.slice.injEq] at he
    obtain ⟨-, -, hcc⟩ := he
    omega
  have hnn := hn.out
  have C9 := Lib.hid (rem9_c _ _ _ _ _ _ _ _ _ _ g1 cp1 n0 (fun j => ls1.getD j d0) 0 w3 hM3.out ((RowRl.of_own hO1.out hl1.out).below hb13.out) (fun j hj => GRl.keep _ _ _ _ _ (hG1.out _ (List.mem_of_getElem? (getD_some (by rw [hl1.out]; exact hj)))) (Kc.of_below hb13.out) (fun b hb q => by rcases q with q | q; exact .inl q; omega)) (fun b q => .inr (by omega)) (.inl rfl) (fun q => by have := hM3.out.dyL q; omega) (by omega) hnn hcp1 (by omega) (by omega) (by simp))
  clear hM3 hb3
  have eK1 := Lib.hid (stp_congr (n := n0) (S := []) (fun j hj => key_at hk1.out hl1.out j hj) n0 (Nat.le_refl _))
  obtain ⟨len1, hlen1⟩ : ∃ y, (stp (kyF R C S T Q) n0 [] n0).2.length = y := ⟨_, rfl⟩
  replace hlen1 := Lib.hid hlen1
  have hln1 := Lib.hid (by have := hlen1.out; rw [← eK1.out] at this; exact this)
  go_upto_region 8 with (go_at_call 9; (with_reducible refine C9.out.mono ?_); rintro e w4 ⟨s1, cq1, a1, ca1, cc1, E1, F1, N1, he, ha1, hL1⟩; rw [hln1.out] at he; subst he; replace ha1 := Lib.hid ha1; replace hL1 := Lib.hid hL1)
  have hR1 : Hid (RLo w4 a1 len1 (fun k => ((stp (kyF R C S T Q) n0 [] n0).2.getD k 0 : Nat))) := Lib.hid (hL1.out.locs hl1.out hc1.out ha1.out _ (fun j hj => key_at hk1.out hl1.out j hj) len1 hlen1.out)
  have hM4 := hL1.out.ms
  rw [eK1.out] at hM4
  replace hM4 := Lib.hid hM4
  have hN1 := hL1.out.nm
  have z34 := hL1.out.kpt.size
  have hk34 := Lib.hid hL1.out.kpt
  have hls1 := hL1.out.ls
  rw [eK1.out, hlen1.out] at hls1
  have hag : Hid (∀ b o, a1 = some ⟨b, o, none⟩ → 0 < len1 → b = g1) := Lib.hid (fun b o e hp => by
    rw [ha1.out (by omega)] at e
    injection e with e
    injection e with e
    exact e.symm)
  have hb04 : Hid (Below w.heap.size w w4) := Lib.hid ((hb1.out.trans (hb13.out.mono z01)).trans (hk34.out.below (by omega) (fun b q => by rcases q with q | q <;> omega)))
  clear C9 hL1 hO1 hG1 hb2 hlb hmb hls1
  go_upto_region 9 with (go_at_call 7; (with_reducible refine (C7.out w4 hb04.out hn.out).mono ?_); rintro e w5 ⟨g2, cp2, ky2, dd2, ls2, rfl, hO2, hl2, hG2, hk2, hc2, hb5⟩; replace hO2 := Lib.hid hO2; replace hl2 := Lib.hid hl2; replace hG2 := Lib.hid hG2; replace hk2 := Lib.hid hk2; replace hc2 := Lib.hid hc2; replace hb5 := Lib.hid hb5)
  have z45 := hb5.out.size
  have hg2 : w4.heap.size ≤ g2 ∧ g2 < w5.heap.size := hO2.out.lt g2 rfl
  have hcp2 : n0 ≤ cp2 := by
    obtain ⟨_, _, he, hnc, hcm⟩ := own_shape hO2.out
    simp only [Value.slice.injEq] at he
    obtain ⟨-, -, hcc⟩ := he
    omega
  have hM5 : Hid (MS (fun b => ((b = g1 ∨ w1.heap.size ≤ b) ∧ b < w4.heap.size) ∨ b = g2 ∨ w5.heap.size ≤ b) w1.heap.size w2.heap.size bm1 ca1 cc1 ([] ++ [0]) E1 (stp (kyF R C S T Q) n0 [] n0).1 N1 w5) := Lib.hid ((hM4.out.turn (fun b hb q => by
    rcases q with q | q | q
    · exact q.1
    · omega
    · omega) (fun b q => .inl ⟨hM4.out.dyO q, hM4.out.dylt q⟩)).below hb5.out)
  have C9 := Lib.hid (rem9_c _ _ _ _ _ _ _ _ _ _ g2 cp2 n0 (fun j => ls2.getD j d0) 1 w5 hM5.out (RowRl.of_own hO2.out hl2.out) (fun j hj => GRl.keep _ _ _ _ _ (hG2.out _ (List.mem_of_getElem? (getD_some (by rw [hl2.out]; exact hj)))) (fun _ _ q _ => q) (fun b hb q => by
    rcases q with q | q | q
    · exact .inr q.2
    · exact .inl q
    · omega)) (fun b q => .inr (.inr q)) (.inr (.inl rfl)) (fun q => by have := hM4.out.dylt q; omega) (by omega) hnn hcp2 (by omega) (by omega) (by simp))
  have hln2 := Lib.hid (show (stp (fun j => (ls2.getD j d0).key) n0 (stp (kyF R C S T Q) n0 [] n0).1 n0).2.length = 0 by rw [stp_again (kyF R C S T Q) (fun j => (ls2.getD j d0).key) n0 (fun j hj => (key_at hk2.out hl2.out j hj).symm) []]; rfl)
  go_upto_region 10 with (go_at_call 9; (with_reducible refine C9.out.mono ?_); rintro e w6 ⟨s2, cq2, a2, ca2, cc2, E2, F2, N2, he, ha2, hL2⟩; rw [hln2.out] at he; subst he; replace hL2 := Lib.hid hL2)
  have hk56 := Lib.hid hL2.out.kpt
  have z56 := hk56.out.size
  have hR1' : Hid (0 < len1 → RLo w6 a1 len1 (fun k => ((stp (kyF R C S T Q) n0 [] n0).2.getD k 0 : Nat))) := Lib.hid (fun hp => (hR1.out.below hb5.out).kp (fun b o e q => by
    rw [hag.out b o e hp] at q
    rcases q with q | q <;> omega) hk56.out)
  have hb06 : Hid (Below w.heap.size w w6) := Lib.hid ((hb04.out.trans (hb5.out.mono (by omega))).trans (hk56.out.below (by omega) (fun b q => by rcases q with q | q <;> omega)))
  clear C9 hL2 hO2 hG2 hM4 hM5 hR1 ha2 hln2
  go_upto_region 11 with (go_at_call 7; (with_reducible refine (C7.out w6 hb06.out hn.out).mono ?_); rintro e w7 ⟨g3, cp3, ky3, dd3, ls3, rfl, hO3, hl3, hG3, hk3, hc3, hb7⟩; replace hO3 := Lib.hid hO3; replace hl3 := Lib.hid hl3; replace hG3 := Lib.hid hG3; replace hk3 := Lib.hid hk3; replace hc3 := Lib.hid hc3; replace hb7 := Lib.hid hb7)
  have z67 := hb7.out.size
  have hg3 : w6.heap.size ≤ g3 ∧ g3 < w7.heap.size := hO3.out.lt g3 rfl
  have hcp3 : n0 ≤ cp3 := by
    obtain ⟨_, _, he, hnc, hcm⟩ := own_shape hO3.out
    simp only [Value.slice.injEq] at he
    obtain ⟨-, -, hcc⟩ := he
    omega
  go_upto_region 12 with (go_at_call 8; (with_reducible refine (mk8_c _).mono ?_); rintro e w8 ⟨bm3, rfl, hlb, hmb, hb8⟩; replace hlb := Lib.hid hlb; replace hmb := Lib.hid hmb; replace hb8 := Lib.hid hb8)
  refine wp_gen (fun w9 hW => ?_)
  have hM9 : Hid (MS (fun b => b = g3 ∨ w7.heap.size ≤ b) w7.heap.size w8.heap.size bm3 none 0 [] (fun _ => ⟨none, 0, []⟩) [] 0 w9) := Lib.hid (by rw [hW]; exact MS.init hmb.out hlb.out (fun b q => .inr q))
  have hb9 : Hid (Below w8.heap.size w8 w9) := Lib.hid (by rw [hW]; exact ba _ _)
  clear hW
  have z78 := hb8.out.size; have z89 := hb9.out.size
  have hb79 := Lib.hid (hb8.out.trans (hb9.out.mono z78))
  have C9 := Lib.hid (rem9_c _ _ _ _ _ _ _ _ _ _ g3 cp3 n0 (fun j => ls3.getD j d0) 0 w9 hM9.out ((RowRl.of_own hO3.out hl3.out).below hb79.out) (fun j hj => GRl.keep _ _ _ _ _ (hG3.out _ (List.mem_of_getElem? (getD_some (by rw [hl3.out]; exact hj)))) (Kc.of_below hb79.out) (fun b hb q => by rcases q with q | q; exact .inl q; omega)) (fun b q => .inr (by omega)) (.inl rfl) (fun q => by have := hM9.out.dyL q; omega) (by omega) hnn hcp3 (by omega) (by omega) (by simp))
  clear hM9 hb9
  have eK3 := Lib.hid (stp_congr (n := n0) (S := []) (fun j hj => key_at hk3.out hl3.out j hj) n0 (Nat.le_refl _))
  have hln3 := Lib.hid (by have := hlen1.out; rw [← eK3.out] at this; exact this)
  go_upto_region 13 with (go_at_call 9; (with_reducible refine C9.out.mono ?_); rintro e w10 ⟨s3, cq3, a3, ca3, cc3, E3, F3, N3, he, ha3, hL3⟩; rw [hln3.out] at he; subst he; replace ha3 := Lib.hid ha3; replace hL3 := Lib.hid hL3)
  have hR3 : Hid (RLo w10 a3 len1 (fun k => ((stp (kyF R C S T Q) n0 [] n0).2.getD k 0 : Nat))) := Lib.hid (hL3.out.locs hl3.out hc3.out ha3.out _ (fun j hj => key_at hk3.out hl3.out j hj) len1 hlen1.out)
  have hk910 := Lib.hid hL3.out.kpt
  have z910 := hk910.out.size
  have hR1'' : Hid (RLo w10 a1 len1 (fun k => ((stp (kyF R C S T Q) n0 [] n0).2.getD k 0 : Nat))) := Lib.hid (fun i hi => (((hR1'.out (by omega)).below hb7.out).below hb79.out |>.kp (fun b o e q => by
    rw [hag.out b o e (by omega)] at q
    rcases q with q | q <;> omega) hk910.out) i hi)
  have hb010 : Hid (Below w.heap.size w w10) := Lib.hid (((hb06.out.trans (hb7.out.mono (by omega))).trans (hb79.out.mono (by omega))).trans (hk910.out.below (by omega) (fun b q => by rcases q with q | q <;> omega)))
  have hl4 : len1 ≤ 4096 := by
    have := stp_len (kyF R C S T Q) n0 [] n0
    have := hlen1.out
    omega
  have C10 := Lib.hid (same10_c a1 a3 len1 cq1 cq3 _ w10 hl4 hR1''.out hR3.out)
  clear C9 hL3 hO3 hG3
  go_wp2_with (go_at_call 10; (with_reducible refine C10.out.mono ?_); rintro e w11 ⟨rfl, hb11⟩; replace hb11 := Lib.hid hb11)
  go_ret
  first | exact ⟨rfl, hb010.out.trans (hb11.out.mono hb010.out.size)⟩ | exact ⟨trivial, hb010.out.trans (hb11.out.mono hb010.out.size)⟩
end Go.Proofs.Ytidmdcadejfjhaa
