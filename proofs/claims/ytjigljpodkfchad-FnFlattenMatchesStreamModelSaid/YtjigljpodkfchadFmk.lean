/- FnFlattenMatchesStreamModel: the law. -/
import Derived.Test.YtjigljpodkfchadFmi
import Derived.Test.YtjigljpodkfchadFmj
set_option linter.unusedVariables false
set_option linter.unusedSimpArgs false
namespace Go.Proofs.Ytjigljpodkfchad
open Go.RowKit
set_option maxRecDepth 100000
set_option maxHeartbeats 40000000
/-- what the flattening answers and what the model answers -/
def Sides (l : List Zc) (n : Nat) (md : Int) (L : List (Ck SK × Bool)) (b : Bool) : Prop := L.length ≤ 1048576 ∧ (∀ x ∈ L, x.1.ks.length ≤ 1048576 ∧ ∀ y ∈ x.1.ks, SkSz y) ∧
  (∀ (pb g c lo base : Nat) (los his : Nat → Nat) (rs0 : List MR) (w : World), w.cell? ⟨pb, 52, none⟩ = some (.int .u8 md) → w.cell? ⟨pb, 53, none⟩ = some (.bool false) → w.frozen? ⟨pb, 53, none⟩ = false → pb < lo → base ≤ pb → RMk2 w (.slice (some ⟨g, 0, none⟩) n c) lo n los his rs0 (l.map Zc.key) → Calls Try.prog 17 #[.pointer (some ⟨pb, 0, none⟩), .slice none 0 0, .agg #[.slice (some ⟨g, 0, none⟩) n c]] w (FlU L b pb base w)) ∧
  (∀ (a : Option Addr) (cc : Nat) (w : World), RC w a l → Calls Try.prog 11 #[.slice a n cc, .bool (md != 0)] w (MdP (L.map gpX) b w))
theorem sides (l : List Zc) (n : Nat) (hn : l.length = n) (hz : zA l ≤ 1048576) (hN : OkN l) (hp : PremZ l) (hu : ∀ c ∈ l, UC c) (md : Int) : ∃ L b, Sides l n md L b := by
  have hn2 : n ≤ 1048576 := by unfold zA at hz; omega
  have hkl : (l.map Zc.key).length = n := by rw [List.length_map]; exact hn
  have hsz := szC hz hN
  have hk := keys_ok hu hz hN
  by_cases hc : md = 0 ∨ hasK l = false
  · refine ⟨pl (l.map Zc.key), false, by unfold pl; rw [List.length_map, hkl]; exact hn2, fun x hx => ?_, fun pb g c lo base los his rs0 w h1 h2 h3 h4 h5 h6 => ?_, fun a cc w h => ?_⟩
    · obtain ⟨k, hk2, rfl⟩ := List.mem_map.1 hx
      exact hk k hk2
    · have hlt := block_lt_of_cell h1
      simp only at hlt
      exact flat17s_c pb g c lo md (l.map Zc.key) n hkl hn2 (fun x hx => (hk x hx).1) hc los his rs0 base w (by omega) h1 h2 h6
    · have h1 := mod11a_c (md != 0) l n hn hn2 (fun x hx => ⟨(hsz x hx).1, fun s hs => ((hsz x hx).2 s hs).1⟩) (by
        rcases hc with e | e
        · left; simp [e]
        · exact .inr e) a cc w h
      have e : (pl (l.map Zc.key)).map gpX = l.map (fun c => gpK c.key false) := by
        unfold pl
        rw [List.map_map, List.map_map]
        rfl
      rw [e]
      exact h1
  · have hmd : md ≠ 0 := fun e => hc (.inl e)
    have hlg : hasK l = true := by
      cases e : hasK l with
      | true => rfl
      | false => exact absurd (.inr e) hc
    have hT : tot (l.map Zc.key) ≤ 1048576 := Nat.le_trans (tot_zA l) hz
    have hgrp : keepG ((itsOf l).foldl gsL []) = (flatK (l.map Zc.key)).map obsK := by
      rw [← flat_grp (l.map Zc.key) (okC_key hu hp)]
      unfold grp itsOf
      rw [List.flatMap_map]
    have h17 : ∀ (pb g c lo base : Nat) (los his : Nat → Nat) (rs0 : List MR) (w : World), w.cell? ⟨pb, 52, none⟩ = some (.int .u8 md) → w.cell? ⟨pb, 53, none⟩ = some (.bool false) → w.frozen? ⟨pb, 53, none⟩ = false → pb < lo → base ≤ pb → RMk2 w (.slice (some ⟨g, 0, none⟩) n c) lo n los his rs0 (l.map Zc.key) → Calls Try.prog 17 #[.pointer (some ⟨pb, 0, none⟩), .slice none 0 0, .agg #[.slice (some ⟨g, 0, none⟩) n c]] w (FlP (l.map Zc.key) pb 53 base w) := fun pb g c lo base los his rs0 w h1 h2 h3 h4 h5 h6 =>
      flat17_c pb g c lo md hmd (l.map Zc.key) n hkl hT hlg (inn_ne hu hp) los his rs0 w h1 h2 h3 h4 base h5 h6
    have h11 : ∀ (a : Option Addr) (cc : Nat) (w : World), RC w a l → Calls Try.prog 11 #[.slice a n cc, .bool (md != 0)] w (MdQ ((itsOf l).foldl gsL []) w) := fun a cc w h => by
      have e : (md != 0) = true := by simp [hmd]
      rw [e]
      exact mod11b_c l n hn hn2 hsz hlg (by have := its_len l; omega) (by have := gs_len l; omega) (okIt_all l hu) a cc w h
    by_cases hf : flatK (l.map Zc.key) = []
    · have hg0 : keepG ((itsOf l).foldl gsL []) = [] := by rw [hgrp, hf]; rfl
      refine ⟨lone, true, by unfold lone; simp, fun x hx => ?_, fun pb g c lo base los his rs0 w h1 h2 h3 h4 h5 h6 => ?_, fun a cc w h => ?_⟩
      · obtain rfl := List.mem_singleton.1 (show x ∈ [((⟨0, none, 1, []⟩ : Ck SK), true)] from hx)
        exact ⟨Nat.zero_le _, fun y hy => by cases hy⟩
      · exact (h17 pb g c lo base los his rs0 w h1 h2 h3 h4 h5 h6).mono (fun e w' hP => hP.u.1 hf)
      · refine (h11 a cc w h).mono (fun e w' hP => ?_)
        rcases hP with ⟨-, hP⟩ | ⟨q, -⟩
        · exact hP
        · exact absurd hg0 q
    · have hg1 : keepG ((itsOf l).foldl gsL []) ≠ [] := by
        rw [hgrp]
        intro q
        exact hf (List.map_eq_nil_iff.1 q)
      refine ⟨pl (flatK (l.map Zc.key)), false, by unfold pl; rw [List.length_map]; exact flatK_len hz, fun x hx => ?_, fun pb g c lo base los his rs0 w h1 h2 h3 h4 h5 h6 => ?_, fun a cc w h => ?_⟩
      · obtain ⟨k, hk2, rfl⟩ := List.mem_map.1 hx
        exact flat_ok hu hz hN k hk2
      · exact (h17 pb g c lo base los his rs0 w h1 h2 h3 h4 h5 h6).mono (fun e w' hP => hP.u.2 hf)
      · refine (h11 a cc w h).mono (fun e w' hP => ?_)
        have e2 : (pl (flatK (l.map Zc.key))).map gpX = keepG ((itsOf l).foldl gsL []) := by
          rw [hgrp]
          unfold pl
          rw [List.map_map]
          rfl
        rw [e2]
        rcases hP with ⟨q, -⟩ | ⟨-, hP⟩
        · exact absurd q hg1
        · exact hP
theorem flat9_c (L : List (Ck SK × Bool)) (b : Bool) (pb base g n c : Nat) (w : World) (hbase : base ≤ w.heap.size) (h17 : ∀ W, Below w.heap.size w W → Calls Try.prog 17 #[.pointer (some ⟨pb, 0, none⟩), .slice none 0 0, .agg #[.slice (some ⟨g, 0, none⟩) n c]] W (FlU L b pb base W)) : Calls Try.prog 9 #[.pointer (some ⟨pb, 0, none⟩), .slice none 0 0, .agg #[.slice (some ⟨g, 0, none⟩) n c]] w (FlU L b pb base w) := by
  replace h17 := Lib.hid h17
  go_enter Try.func9, Try.ntmps9
  go_upto_region 1 with fail
  refine wp_gen (fun W1 hW => ?_)
  have b1 : Hid (Below w.heap.size w W1) := Lib.hid (by rw [hW]; exact ba _ _)
  have e5 : W1.cell? ⟨w.heap.size, 0, none⟩ = some (.slice (some ⟨g, 0, none⟩) n c) := by rw [hW]; simp [go_sem]
  clear hW
  go_wp2_with (go_at_call 17; (with_reducible refine (h17.out _ b1.out).mono ?_); rintro e w5 ⟨G, c5, a5, n5, c6, rfl, f1, f2, f3, f4, f5⟩; replace f1 := Lib.hid f1; replace f2 := Lib.hid f2; replace f3 := Lib.hid f3; replace f4 := Lib.hid f4; replace f5 := Lib.hid f5)
  exact bodyPost_ret (v := .slice (some ⟨G, 0, none⟩) 1 c5) (by simp [results, Try.results9, go_sem]) rfl ⟨G, c5, a5, n5, c6, rfl, f1.out, f2.out, f3.out, f4.out, (b1.out.mono hbase).trans f5.out⟩
def LawP (w : World) (e : Ending) (w' : World) : Prop := e = .returned (.bool true) ∧ Below w.heap.size w w'
theorem law3_c (l : List Zc) (n : Nat) (hn : l.length = n) (hn2 : n ≤ maxLen) (a : Option Addr) (cc : Nat) (md : Int) (w : World) (h : RC w a l) : Calls Try.prog 3 #[.slice a n cc, .int .u8 md] w (LawP w) := by
  have C4 := Lib.hid (bytes4_c l n hn hn2 a cc (.int .u8 md) w h)
  have hu := Lib.hid h.uc
  replace hn := Lib.hid hn; replace h := Lib.hid h
  clear hn2
  go_enter Try.func3, Try.ntmps3
  go_upto_region 3 with (go_at_call 4; (with_reducible refine C4.out.mono ?_); rintro e w' ⟨b4, rfl, rfl, hz⟩; replace hz := Lib.hid hz; cases b4)
  · go_ret
    exact ⟨rfl, Below.refl _ _⟩
  clear C4
  replace hz := Lib.hid (hz.out (by simp))
  have C5 := Lib.hid (size5_c l n hn.out hz.out a cc w h.out)
  go_upto_region 5 with (go_at_call 5; (with_reducible refine C5.out.mono ?_); rintro e w5 ⟨z5, rfl, b5⟩; replace b5 := Lib.hid b5; by_cases hz5 : (1048576 : Int) < z5)
  · go_ret
    exact ⟨rfl, b5.out⟩
  clear C5 hz5
  have h5 := Lib.hid (h.out.after b5.out)
  have C6 := Lib.hid (cnt6_c l n hn.out hz.out a cc w5 h5.out)
  go_upto_region 7 with (go_at_call 6; (with_reducible refine C6.out.mono ?_); rintro e w' ⟨b6, rfl, rfl, hN⟩; replace hN := Lib.hid hN; cases b6)
  · go_ret
    exact ⟨rfl, b5.out⟩
  clear C6
  replace hN := Lib.hid (hN.out (by simp))
  have C7 := Lib.hid (prem7_c l n hn.out hz.out a cc w5 h5.out)
  go_upto_region 9 with (go_at_call 7; (with_reducible refine C7.out.mono ?_); rintro e w7 ⟨b7, rfl, bb7, hp⟩; replace hp := Lib.hid hp; replace bb7 := Lib.hid bb7; cases b7)
  · go_ret
    exact ⟨rfl, b5.out.trans (bb7.out.mono b5.out.size)⟩
  clear C7
  replace hp := Lib.hid (hp.out (by simp))
  have hb7 : Hid (Below w.heap.size w w7) := Lib.hid (b5.out.trans (bb7.out.mono b5.out.size))
  have h7 := Lib.hid (h.out.after hb7.out)
  have hn1 : n ≤ 1048576 := by have := hz.out; have := hn.out; unfold zA at *; omega
  clear b5 bb7 h5
  have C8 := Lib.hid (fun v W => prs8_c v W)
  go_upto_region 10 with (go_at_call 8; (with_reducible refine (C8.out _ _).mono ?_); rintro e w8 ⟨pb, rfl, hpb, hp52, hp53, hpf, b8⟩; replace hpb := Lib.hid hpb; replace hp52 := Lib.hid hp52; replace hp53 := Lib.hid hp53; replace hpf := Lib.hid hpf; replace b8 := Lib.hid b8)
  clear C8
  have hb8 : Hid (Below w.heap.size w w8) := Lib.hid (hb7.out.trans (b8.out.mono hb7.out.size))
  have h8 := Lib.hid (h.out.after hb8.out)
  have hsz := szC hz.out hN.out
  have C10 := Lib.hid (cplx10_c l n hn.out hn1 (fun x hx => ⟨(hsz x hx).1, fun s hs => ⟨((hsz x hx).2 s hs).1.2.1, fun y hy => (((hsz x hx).2 s hs).2 y hy).1⟩⟩) a cc w8 h8.out)
  clear hsz
  obtain ⟨L, bb, hL1, hL2, hL3, hL4⟩ := sides l n hn.out hz.out hN.out hp.out hu.out (md.tmod 3)
  replace hL2 := Lib.hid hL2; replace hL3 := Lib.hid hL3; replace hL4 := Lib.hid hL4
  have hplt : Hid (pb < w8.heap.size) := Lib.hid (block_lt_of_cell hp52.out)
  have hpw : Hid (w.heap.size ≤ pb) := Lib.hid (Nat.le_trans hb7.out.size hpb.out)
  go_upto_region 11 with first | (go_at_call 10; (with_reducible refine C10.out.mono ?_); rintro e w10 ⟨g, c, los, his, rs, rfl, hR, b10⟩; replace hR := Lib.hid hR; replace b10 := Lib.hid b10; have C9 := Lib.hid (flat9_c L bb pb w.heap.size g n c w10 (Nat.le_trans hb8.out.size b10.out.size) (fun W hb => hL3.out pb g c w8.heap.size w.heap.size los his rs W (ac hb (ac b10.out hp52.out)) (ac hb (ac b10.out hp53.out)) (af hb (ac b10.out hp53.out) (af b10.out hp53.out hpf.out)) hplt.out hpw.out (hR.out.after hb)))) | (go_at_call 9; (with_reducible refine C9.out.mono ?_); rintro e w9 ⟨G, c5, a5, n5, c6, rfl, f1, f2, f3, f4, f5⟩; replace f1 := Lib.hid f1; replace f2 := Lib.hid f2; replace f3 := Lib.hid f3; replace f4 := Lib.hid f4; replace f5 := Lib.hid f5)
  have hb9 : Hid (Below w.heap.size w w9) := Lib.hid ((hb8.out.trans (b10.out.mono hb8.out.size)).trans f5.out)
  clear C10 C9 h8 b8 h7 hb7
  have C11 := Lib.hid (hL4.out a cc w9 (h.out.after hb9.out))
  obtain ⟨N, hN2⟩ : ∃ y, (L.map gpX).length = y := ⟨_, rfl⟩
  have hNn : Hid (L.length = N) := Lib.hid (by rw [← hN2, List.length_map])
  have hN5 : Hid (n5 = N) := Lib.hid (by rw [← f2.out, hNn.out])
  replace hN2 := Lib.hid hN2
  go_upto_region 14 with (go_at_call 11; (with_reducible refine C11.out.mono ?_); rintro e w11 ⟨v11, r11, rfl, hG, b11⟩; obtain ⟨a11, c11, hv⟩ := own_head hG.1; rw [hN2.out] at hv; subst hv; replace hG := Lib.hid hG; replace b11 := Lib.hid b11)
  clear C11
  have hc0 := ac b11.out f1.out
  have hNb : N ≤ 1048576 := by rw [← hNn.out]; exact hL1
  have hb11 : Hid (Below w.heap.size w w11) := Lib.hid (hb9.out.trans (b11.out.mono hb9.out.size))
  have C13 := Lib.hid (obs13_c L n5 f2.out (by rw [hN5.out]; exact hNb) hL2.out a5 c6 w11 (f3.out.after b11.out))
  have hp11 := Lib.hid (ac b11.out f4.out)
  have hks : Hid (∀ g ∈ L.map gpX, g.ks.length ≤ 1048576) := Lib.hid (fun g hg => by
    obtain ⟨x, hx, rfl⟩ := List.mem_map.1 hg
    show (x.1.ks.map enc).length ≤ _
    rw [List.length_map]
    exact (hL2.out x hx).1)
  have hrd := Lib.hid (GsR.rd (a := a11) (n := N) (c := c11) hG.out)
  clear hG f1 f3 f4 hL2
  go_upto_region 15 with first | (go_at_call 13; (with_reducible refine C13.out.mono ?_); rintro e w13 ⟨v13, r13, rfl, hG2, b13⟩; obtain ⟨a13, c13, hv⟩ := own_head hG2.1; rw [hN2.out] at hv; subst hv; replace hG2 := Lib.hid hG2; replace b13 := Lib.hid b13; have C12 := Lib.hid (same12_c (L.map gpX) N hN2.out hNb hks.out a13 a11 c13 c11 w13 (GsR.rd hG2.out) (hrd.out.after b13.out))) | (go_at_call 12; (with_reducible refine C12.out.mono ?_); rintro e w12 ⟨rfl, b12⟩; replace b12 := Lib.hid b12)
  have hb12 : Hid (Below w.heap.size w w12) := Lib.hid ((hb11.out.trans (b13.out.mono hb11.out.size)).trans (b12.out.mono (Nat.le_trans hb11.out.size b13.out.size)))
  have C14 := Lib.hid (nest14_c pb bb w12 (ac b12.out (ac b13.out hp11.out)))
  cases bb
  · go_wp2_with (go_at_call 14; (with_reducible refine C14.out.mono ?_); rintro e w14 ⟨rfl, rfl⟩)
    go_ret
    exact ⟨rfl, hb12.out⟩
  · go_wp2_with (go_at_call 14; (with_reducible refine C14.out.mono ?_); rintro e w14 ⟨rfl, rfl⟩)
    go_ret
    exact ⟨rfl, hb12.out⟩
end Go.Proofs.Ytjigljpodkfchad
