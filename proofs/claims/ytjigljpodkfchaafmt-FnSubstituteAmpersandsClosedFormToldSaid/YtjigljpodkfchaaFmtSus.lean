/- FnSubstituteAmpersandsClosedForm: ZZSubstitute on built parents; the law. -/
import Derived.Test.YtjigljpodkfchaaFmtSur
set_option linter.unusedVariables false
set_option linter.unusedSimpArgs false
namespace Go.Proofs.YtjigljpodkfchaaFmt
open Go.RowKit
set_option maxRecDepth 100000
set_option maxHeartbeats 40000000
theorem cf30 (args : Array Value) (W : World) : (callFunc 30 args).run Tryf.prog W = .ok (.enter 30 args) W := by kernel_rfl
theorem cf31 (args : Array Value) (W : World) : (callFunc 31 args).run Tryf.prog W = .ok (.enter 31 args) W := by kernel_rfl
theorem lastCb_key {pls : List (CxR ByteArray)} {gs : List (List Cm)} (hk : pls.map CxR.key = gs.map (List.map Cm.key)) : lastCb pls = rcombM gs := by
  unfold lastCb rcombM
  have h := congrArg List.getLast? hk
  rw [List.getLast?_map, List.getLast?_map] at h
  cases h1 : pls.getLast? with
  | none =>
    rw [h1] at h
    cases h2 : gs.getLast? with
    | none => rfl
    | some g => rw [h2] at h; cases h
  | some x =>
    rw [h1] at h
    cases h2 : gs.getLast? with
    | none => rw [h2] at h; cases h
    | some g =>
      rw [h2] at h
      injection h with h
      obtain ⟨xa, xc, xl⟩ := x
      have h3 : xl.map CpR.key = g.map Cm.key := h
      cases xl with
      | nil =>
        cases g with
        | nil => rfl
        | cons s t => cases h3
      | cons s t =>
        cases g with
        | nil => cases h3
        | cons s' t' =>
          simp only [List.map_cons, List.cons.injEq] at h3
          have h4 := h3.1
          simp only [CpR.key, Cm.key, CK.mk.injEq] at h4
          exact h4.1
theorem good_of {gs : List (List Cm)} (hn : gs.length ≤ 1048576) (hin : ∀ g ∈ gs, g.length ≤ 1048576 ∧ ∀ c ∈ g, c.nm.length ≤ 1048576) (hna : NoAmp gs) : GoodK (gs.map (List.map Cm.key)) := by
  refine ⟨by rw [List.length_map]; exact hn, fun x hx => ?_⟩
  obtain ⟨g, hg, rfl⟩ := List.mem_map.1 hx
  refine ⟨by rw [List.length_map]; exact (hin g hg).1, fun s hs => ?_⟩
  obtain ⟨c, hc, rfl⟩ := List.mem_map.1 hs
  exact ⟨hna g hg c hc, (hin g hg).2 c hc⟩
theorem sub7_c (c0 : Cm) (r : CpR ByteArray) (hrk : r.key = c0.key) (ham : c0.am ≤ 255) (hnl : c0.nm.length ≤ 1048576) (st : Int) (hst : st = 0 ∨ st = 1) (gs : List (List Cm)) (n1 : Nat) (hn1 : gs.length = n1) (hg2 : n1 ≤ 1048576) (hin : ∀ g ∈ gs, g.length ≤ 1048576 ∧ ∀ c ∈ g, c.nm.length ≤ 1048576) (hP : PremF c0 gs) (pls : List (CxR ByteArray)) (pa : Option Addr) (pc : Nat) (hk : pls.map CxR.key = gs.map (List.map Cm.key)) (w : World) (base n : Nat) (v : Value) (xs : List Value) (h : GCp G0 (Ob v) w r) (hR : RCx G0 (Ob v) w pa pls) (hO : w.ownsRow base 40 6 v n xs) (hn : n ≤ 1048576) (hb : base ≤ w.heap.size) : Calls Tryf.prog 7 #[.agg r.arr, .slice pa n1 pc, v, .int .u8 st] w (F20P c0.cb c0.am st (rcombM gs) (repM gs) c0.nm base n v xs w) := by
  have hlen : pls.length = n1 := by have := congrArg List.length hk; rw [List.length_map, List.length_map] at this; omega
  have hkp := hrk
  simp only [CpR.key, Cm.key, CK.mk.injEq] at hkp
  obtain ⟨k1, k2, k3⟩ := hkp
  obtain ⟨hNA, hP1, hP2, hP3⟩ := hP
  rw [hn1] at hP1 hP2
  have hvl : ∀ b, Ob v b → b < w.heap.size := fun b q => (hO.lt b q).2
  have hrl : r.ls.length ≤ 1048576 := by rw [← List.length_map (f := SubR.k), k3]; exact hnl
  by_cases h1 : n1 = 1
  · subst h1
    obtain ⟨g, rfl⟩ := List.length_eq_one_iff.1 hn1
    obtain ⟨cm, rfl⟩ := List.length_eq_one_iff.1 (hP1 rfl g (List.mem_cons_self ..))
    obtain ⟨x, rfl⟩ := List.length_eq_one_iff.1 hlen
    simp only [List.map_cons, List.map_nil, List.cons.injEq, and_true] at hk
    obtain ⟨r0, hx⟩ : ∃ r0, x.ls = [r0] := List.length_eq_one_iff.1 (by have := congrArg List.length hk; rw [CxR.key, List.length_map] at this; simpa using this)
    have hr0 : CpR.key r0 = cm.key := by rw [CxR.key, hx] at hk; simpa using hk
    simp only [CpR.key, Cm.key, CK.mk.injEq] at hr0
    obtain ⟨q1, q2, q3⟩ := hr0
    obtain ⟨gb, rfl, hgb, hgc, hGx, hGl⟩ := hR 0 x rfl
    have hG := sub7_g (fun u W => ∃ B, u = .func (.func 30) #[] #[.pointer (some ⟨B, 0, none⟩)] ∧ W.cell? ⟨B, 0, none⟩ = some (.slice (some ⟨gb, 0, none⟩) 1 pc) ∧ W.cell? ⟨gb, 0, none⟩ = some (.slice x.a x.ls.length x.c) ∧ RCp G0 (Ob v) W x.a x.ls) (fun u W W' hb2 ⟨B, e1, e2, e3, e4⟩ => ⟨B, e1, ac hb2 e2, ac hb2 e3, e4.keep G0.keep (Kc.of_below hb2) (fun _ _ q => q)⟩) r0.cb (r0.ls.map (fun s => .inl s.k)) st hst r c0.am k2 ham hrl (by
        have e1 : (r0.ls.map (fun s => (Sum.inl s.k : SK))).length = rlen [[cm]] := by
          rw [List.length_map, ← List.length_map (f := SubR.k), q3]; rfl
        rw [e1]; exact hP3) (fun pk hpk => by simp at hpk) w base n v xs h hO hn hb (.slice (some ⟨gb, 0, none⟩) 1 pc) (fun p W hW => (maker21_c p (some ⟨gb, 0, none⟩) pc 1 W rfl).mono (by
        rintro e w' ⟨B, rfl, hc, -, hb2⟩
        exact ⟨_, rfl, ⟨B, rfl, hc, ac (hW.trans (hb2.mono hW.size)) hgc, hGx.keep G0.keep (Kc.of_below (hW.trans (hb2.mono hW.size))) (fun _ _ q => q)⟩, hb2⟩)) (by
        rintro u W ⟨B, rfl, e2, e3, e4⟩ hW
        exact ⟨30, _, rfl, fun W' => cf30 _ W', fun W' hb2 => one_fn v x r0 W B gb 1 pc e2 rfl e3 hx e4 W' hb2⟩)
    have e2 : r0.cb = rcombM [[cm]] := q1
    have e3 : r0.ls.map (fun s => (Sum.inl s.k : SK)) = repM [[cm]] := by
      show _ = cm.nm.map Sum.inl
      rw [← q3, List.map_map]; rfl
    rw [k1, k3, e2, e3] at hG
    exact hG
  · have hgk : GoodK (gs.map (List.map Cm.key)) := good_of (by omega) hin hNA
    have hrep : repM gs = [.inr (gs.map (List.map Cm.key))] := by
      unfold repM
      split
      · exact absurd hn1.symm h1
      · rfl
    have hG := sub7_g (fun u W => ∃ B C a c ls, u = .func (.func 31) #[] #[.pointer (some ⟨B, 0, none⟩), .pointer (some ⟨C, 0, none⟩)] ∧ W.cell? ⟨B, 0, none⟩ = some (.int .i32 0) ∧ W.cell? ⟨B, 1, none⟩ = some (.int .u8 (lastCb pls)) ∧ W.cell? ⟨C, 0, none⟩ = some (.slice a n1 c) ∧ RCx G0 (Ob v) W a ls ∧ ls.length = n1 ∧ ls.map CxR.key = gs.map (List.map Cm.key)) (fun u W W' hb2 ⟨B, C, a, c, ls, e1, e2, e3, e4, e5, e6, e7⟩ => ⟨B, C, a, c, ls, e1, ac hb2 e2, ac hb2 e3, ac hb2 e4, e5.keep G0.keep (Kc.of_below hb2) (fun _ _ q => q), e6, e7⟩) (lastCb pls) [.inr (gs.map (List.map Cm.key))] st hst r c0.am k2 ham hrl (by
        rw [List.length_singleton]; omega) (fun pk hpk => by
        rw [List.mem_singleton] at hpk
        injection hpk with hpk
        subst hpk
        exact hgk) w base n v xs h hO hn hb (.slice pa n1 pc) (fun p W hW => (maker21m_c p pls pa pc n1 hlen h1 hg2 (fun x hx => by
        have hxk : CxR.key x ∈ gs.map (List.map Cm.key) := by rw [← hk]; exact List.mem_map_of_mem hx
        obtain ⟨g, hg, hge⟩ := List.mem_map.1 hxk
        have hge2 : x.ls.map CpR.key = g.map Cm.key := hge.symm
        have hxl : x.ls.length = g.length := by have := congrArg List.length hge2; rw [List.length_map, List.length_map] at this; exact this
        refine ⟨fun q => hP2 h1 g hg (List.eq_nil_of_length_eq_zero (by rw [← hxl, q]; rfl)), by rw [hxl]; exact (hin g hg).1, fun s hs => ?_⟩
        have hsk : CpR.key s ∈ g.map Cm.key := by rw [← hge2]; exact List.mem_map_of_mem hs
        obtain ⟨cm, hcm, hce⟩ := List.mem_map.1 hsk
        simp only [CpR.key, Cm.key, CK.mk.injEq] at hce
        exact ⟨by rw [← hce.2.1]; exact hNA g hg cm hcm, by rw [← List.length_map (f := SubR.k), ← hce.2.2]; exact (hin g hg).2 cm hcm⟩) (Ob v) W (hR.keep G0.keep (Kc.of_below hW) (fun _ _ q => q))).mono (by
        rintro e w' ⟨B, C, a, c, ls, rfl, e1, e2, e3, -, -, e4, e5, e6, hb2⟩
        exact ⟨_, rfl, ⟨B, C, a, c, ls, rfl, e1, e2, e3, e4.keep G0.keep (fun _ _ q _ => q) (fun b _ q => by have := hvl b q; have := hW.size; show b < W.heap.size; omega), e5, by rw [e6, hk]⟩, hb2⟩)) (by
        rintro u W ⟨B, C, a, c, ls, rfl, e2, e3, e4, e5, e6, e7⟩ hW
        refine ⟨31, _, rfl, fun W' => cf31 _ W', fun W' hb2 => ?_⟩
        rw [← e7]
        exact many_fn v (lastCb pls) a n1 c ls W B C (fun b q => by have := hvl b q; have := hW.size; omega) e2 e3 e4 e5 e6 W' hb2)
    rw [lastCb_key hk, k1, k3, ← hrep] at hG
    exact hG
theorem own_seg {w : World} {B e z g n c o : Nat} {xs vs : List Value} (h : w.ownsRow B e z (.slice (some ⟨g, 0, none⟩) n c) n xs) (hv : ∀ j v, vs[j]? = some v → xs[o + j]? = some v) : Seg w g o vs := fun j v hj => by
  have := h.cells (g := g) rfl (o + j) v (hv j v hj)
  have ea : (⟨g, 0, none⟩ : Addr).add (o + j) = ⟨g, o + j, none⟩ := by unfold Addr.add; split <;> simp_all
  rw [ea] at this
  exact this
end Go.Proofs.YtjigljpodkfchaaFmt
