/- FnFlattenMatchesStreamModel: flattenLocalAndGlobalSelectors. -/
import Derived.Test.YtjigljpodkfchadFlu
set_option linter.unusedVariables false
set_option linter.unusedSimpArgs false
namespace Go.Proofs.Ytjigljpodkfchad
open Go.RowKit
set_option maxRecDepth 100000
set_option maxHeartbeats 40000000
/-- what is seen of a row of compounds -/
def ObsC (w : World) (v : Value) (l : List (Ck SK)) : Prop := ∃ (a : Option Addr) (n c : Nat), v = .slice a n c ∧ l.length = n ∧ ∀ (j : Nat) x, l[j]? = some x → ∃ g r, a = some ⟨g, 0, none⟩ ∧ Seg w g (j * 6) r.cells ∧ RCk G1 (fun _ => False) w r x
def ObsE (w : World) (v : Value) : Prop := ∃ (g c c2 : Nat) (a2 : Option Addr), v = .slice (some ⟨g, 0, none⟩) 1 c ∧ Seg w g 0 [.pointer none, .slice none 0 0, .slice a2 1 c2, .int .i32 0, .int .u8 0, .bool true]
def FlP (l : List (Ck SK)) (pb oN base : Nat) (w : World) (e : Ending) (w' : World) : Prop := ∃ (L c : Nat) (v : Value), e = .returned (.slice (some ⟨L, 0, none⟩) 1 c) ∧ w'.cell? ⟨L, 0, none⟩ = some v ∧ ((flatK l = [] ∧ ObsE w' v ∧ w'.cell? ⟨pb, oN, none⟩ = some (.bool true)) ∨ (flatK l ≠ [] ∧ ObsC w' v (flatK l) ∧ w'.cell? ⟨pb, oN, none⟩ = some (.bool false))) ∧ Below base w w'
/-- the intervals of the compounds from k on -/
def Fut (X n : Nat) (los his : Nat → Nat) (k : Nat) : Nat → Prop := fun b => b = X ∨ ∃ i, k ≤ i ∧ i < n ∧ los i ≤ b ∧ b < his i
/-- what the rounds ahead of k wrote -/
def svs (rs : List MR) (i : Nat) : Value := (rs[i]?.map MR.sv).getD (.slice none 0 0)
def Wrt (M : Nat) (rs : List MR) (los his : Nat → Nat) (k : Nat) : Nat → Prop := fun b => M ≤ b ∨ ∃ i, i < k ∧ los i ≤ b ∧ b < his i ∧ ¬ Ob (svs rs i) b
theorem has_of_rmk {w W : World} {g c lo n : Nat} {los his : Nat → Nat} {rs : List MR} {l : List (Ck SK)} (h : RMk2 w (.slice (some ⟨g, 0, none⟩) n c) lo n los his rs l) : ∀ (i : Nat) x, l[i]? = some x → ∃ r, rs[i]? = some r ∧ Seg w g (i * 6) r.cells ∧ RCk1 (los i) (his i) w r x := fun i x hx => by
  obtain ⟨h1, h2, h3, h4, h5, h6, h7⟩ := h
  have hi := (List.getElem?_eq_some_iff.1 hx).1
  obtain ⟨r, hr⟩ : ∃ r, rs[i]? = some r := ⟨_, List.getElem?_eq_getElem (by omega)⟩
  refine ⟨r, hr, own_seg h1 (fun j v hj => ?_), h4 i r x hr hx⟩
  have hj6 : j < 6 := by have := (List.getElem?_eq_some_iff.1 hj).1; simpa [MR.cells] using this
  rw [flat_at MR.cells 6 (fun _ => rfl) rs i j r hr hj6]
  exact hj
theorem AccX.obs {M : Nat} {O : Nat → Prop} {w : World} {v : Value} {n : Nat} {rs : List MR} {acc : List (Ck SK)} (h : AccX M O w v n rs acc) : ObsC w v acc := by
  obtain ⟨h1, h2, h3, h4, h5⟩ := h
  obtain ⟨a, c, rfl⟩ := own_head h1
  refine ⟨a, n, c, rfl, h3, fun j x hx => ?_⟩
  have hj := (List.getElem?_eq_some_iff.1 hx).1
  obtain ⟨g, c', e, -⟩ := own_some h1 (by omega)
  injection e with e
  subst e
  obtain ⟨r, hr⟩ : ∃ r, rs[j]? = some r := ⟨_, List.getElem?_eq_getElem (by omega)⟩
  refine ⟨g, r, rfl, own_seg h1 (fun i v hi => ?_), RCk.wide G1.keep (h5 j r x hr hx) (fun _ _ q => q.elim)⟩
  have hj6 : i < 6 := by have := (List.getElem?_eq_some_iff.1 hi).1; simpa [MR.cells] using this
  rw [flat_at MR.cells 6 (fun _ => rfl) rs j i r hr hj6]
  exact hi
theorem ObsC.after {w w' : World} {v : Value} {l : List (Ck SK)} (h : ObsC w v l) (hb : Below w.heap.size w w') : ObsC w' v l := by
  obtain ⟨a, n, c, h1, h2, h3⟩ := h
  refine ⟨a, n, c, h1, h2, fun j x hx => ?_⟩
  obtain ⟨g, r, e, e1, e2⟩ := h3 j x hx
  exact ⟨g, r, e, e1.after hb, e2.keep G1.keep (S := fun _ => False) (Kp.of hb) (fun _ _ q => q.elim) (fun _ _ q => q)⟩
theorem ObsE.after {w w' : World} {v : Value} (h : ObsE w v) (hb : Below w.heap.size w w') : ObsE w' v := by
  obtain ⟨g, c, c2, a2, h1, h2⟩ := h
  exact ⟨g, c, c2, a2, h1, h2.after hb⟩
theorem sset {w : World} {b : Nat} {u v : Value} (h : w.cell? ⟨b, 0, none⟩ = some u) : (w.setCell ⟨b, 0, none⟩ v).cell? ⟨b, 0, none⟩ = some v := by
  have hs : Seg w b 0 [u] := fun j x hj => by
    cases j with
    | zero => injection hj with hj; subst hj; exact h
    | succ j => simp at hj
  have := (hs.set 0 v (by simp)) 0 v rfl
  simpa using this
theorem flat17_c (pb g c lo : Nat) (md : Int) (hmd : md ≠ 0) (l : List (Ck SK)) (n : Nat) (hn : l.length = n) (hT : tot l ≤ 1048576) (hlg : l.any (fun x => x.ks.any isLg) = true) (hne : ∀ x ∈ l, ∀ (kd : Int) li, (Sum.inr (kd, li) : SK) ∈ x.ks → isLg (.inr (kd, li)) = true → li ≠ []) (los his : Nat → Nat) (rs0 : List MR) (w : World) (hp : w.cell? ⟨pb, 52, none⟩ = some (.int .u8 md)) (hpN : w.cell? ⟨pb, 53, none⟩ = some (.bool false)) (hpF : w.frozen? ⟨pb, 53, none⟩ = false) (hpb : pb < lo) (base : Nat) (hbase : base ≤ pb) (hR : RMk2 w (.slice (some ⟨g, 0, none⟩) n c) lo n los his rs0 l) : Calls Try.prog 17 #[.pointer (some ⟨pb, 0, none⟩), .slice none 0 0, .agg #[.slice (some ⟨g, 0, none⟩) n c]] w (FlP l pb 53 base w) := by
  have hn2 : n ≤ 1048576 := by
    have : ∀ l : List (Ck SK), l.length ≤ tot l := fun l => by
      induction l with
      | nil => exact Nat.le_refl _
      | cons t r ih => simp only [tot, List.map_cons, List.sum_cons, List.length_cons] at *; omega
    have := this l
    omega
  have hks : ∀ x ∈ l, x.ks.length ≤ 1048576 := fun x hx => by
    obtain ⟨i, hi⟩ := List.getElem?_of_mem hx
    have h1 := sum_take (fun c : Ck SK => 1 + wS c.ks) l i x hi
    have h2 : ∀ ks : List SK, ks.length ≤ wS ks := fun ks => by
      induction ks with
      | nil => exact Nat.le_refl _
      | cons t r ih => have : 1 ≤ wt t := by { cases t <;> simp only [wt] <;> omega }; simp only [wS, List.map_cons, List.sum_cons, List.length_cons] at *; omega
    have := h2 x.ks
    simp only [tot] at hT
    omega
  replace hn := Lib.hid hn; replace hT := Lib.hid hT; replace hlg := Lib.hid hlg; replace hne := Lib.hid hne; replace hR := Lib.hid hR; replace hks := Lib.hid hks
  have q : (md != 0) = true := by simp [hmd]
  clear hmd
  go_enter Try.func17, Try.ntmps17
  go_upto_region 1 with fail
  refine wp_gen (fun W1 hW => ?_)
  have b1 : Hid (Below w.heap.size w W1) := Lib.hid (by rw [hW]; exact ba _ _)
  have e5 : W1.cell? ⟨w.heap.size, 0, none⟩ = some (.slice (some ⟨g, 0, none⟩) n c) := by rw [hW]; simp [go_sem]
  have f5 : W1.frozen? ⟨w.heap.size, 0, none⟩ = false := by rw [hW]; simp [go_sem]
  have hM1 : W1.heap.size = w.heap.size + 1 := by rw [hW]; simp
  clear hW
  obtain ⟨X, hX⟩ : ∃ y, w.heap.size = y := ⟨_, rfl⟩
  rw [hX] at e5 f5 hM1 ⊢
  have hXw := Lib.hid hX
  clear hX
  have hpM := Lib.hid (block_lt_of_cell hp)
  replace hp := ac b1.out hp
  have hpN1 := Lib.hid (ac b1.out hpN)
  have hpF1 := Lib.hid (af b1.out hpN hpF)
  clear hpN hpF
  have hR1 := Lib.hid (hR.out.after b1.out)
  have C27 := Lib.hid (has27_c l n hn.out hn2 hks.out rs0 g c W1 (fun i x hx => by
    obtain ⟨r, hr, h1, h2⟩ := has_of_rmk (W := W1) hR1.out i x hx
    exact ⟨r, h1, h2.2.1.ptr, by obtain ⟨na, nc, e, -⟩ := h2.2.2.1; exact ⟨na, nc, e⟩, h2.see⟩))
  rw [hlg.out] at C27
  go_upto_region 2 with (go_at_call 27; (with_reducible refine C27.out.mono ?_); rintro e w5 ⟨rfl, b5⟩; replace b5 := Lib.hid b5; have e5' := ac b5.out e5; have f5' := af b5.out e5 f5)
  obtain ⟨W0, rfl⟩ : ∃ y, y = w5 := ⟨_, rfl⟩
  clear e5 f5
  have hR0 := Lib.hid (hR1.out.after b5.out)
  have hpN0 := Lib.hid (ac b5.out hpN1.out)
  have hpF0 := Lib.hid (af b5.out hpN1.out hpF1.out)
  have hb0 : Hid (Below w.heap.size w W0) := Lib.hid (b1.out.trans (b5.out.mono b1.out.size))
  obtain ⟨M, hM⟩ : ∃ y, W0.heap.size = y := ⟨_, rfl⟩
  replace hM := Lib.hid hM
  have hXM : Hid (X < M) := Lib.hid (by have := b5.out.size; have := hM.out; omega)
  have hlX : Hid (∀ i, i < n → lo ≤ los i ∧ los i ≤ his i ∧ his i ≤ X) := Lib.hid (fun i hi => by
    have := hR.out.2.2.2.2.1 i hi
    have := hXw.out
    omega)
  have hW0 : Hid (M ≤ W0.heap.size) := Lib.hid (by rw [hM.out]; exact Nat.le_refl _)
  go_wp2
  go_loopw [7, 31] (fun v i wr => ∃ (k n' : Nat) (va : Option Addr) (vc : Nat) (rs : List MR), k ≤ n ∧ i = .int .i64 k ∧ v = .slice va n' vc ∧ AccX M (Fut X n los his k) wr (.slice va n' vc) n' rs ((l.take k).foldl compStep []) ∧ Kp (Wrt M rs0 los his k) W0 wr) (fun _ i _ => n - (intOf i).toNat)
  case atStart => exact ⟨0, 0, none, 0, [], by omega, rfl, rfl, ⟨World.ownsRow_nil _ _ _ _, rfl, rfl, fun b q => absurd q ob_nil, fun j r x hr hx => by simp at hr⟩, Kp.refl _⟩
  case round =>
    obtain ⟨k, n', va, vc, rs, hk, rfl, rfl, hA, hK⟩ := hrel
    obtain ⟨Wr, rfl⟩ : ∃ y, y = wr := ⟨_, rfl⟩
    replace hA := Lib.hid hA; replace hK := Lib.hid hK
    have hMr : M ≤ Wr.heap.size := Nat.le_trans hW0.out hK.out.size
    have hXn : Hid (¬ Wrt M rs0 los his k X) := Lib.hid (fun q => by
      have := hXM.out
      rcases q with q | ⟨i, q1, q2, q3, -⟩
      · omega
      · have := hlX.out i (by omega); omega)
    have e5 := hK.out.cell e5' hXn.out
    by_cases hlt : k < n
    · obtain ⟨x, hx⟩ : ∃ x, l[k]? = some x := ⟨_, List.getElem?_eq_getElem (by rw [hn.out]; exact hlt)⟩
      obtain ⟨r, hr, hsg, hrk⟩ := has_of_rmk (W := W0) hR0.out k x hx
      have hXk := hlX.out k hlt
      have hgn : Hid (¬ Wrt M rs0 los his k g) := Lib.hid (fun q => by
        have hgM := Seg.lt (show Seg W0 g (k * 6) (r.tv :: r.cells.tail) from hsg)
        rcases q with q | ⟨i, q1, q2, q3, -⟩
        · have := hM.out; omega
        · have := hR0.out.2.2.2.2.2.2 i (by omega) g (by obtain ⟨g', c', e, -⟩ := own_some hR0.out.1 (by omega); simp [Ob, Value.ownBlock]); omega)
      have hsg' := hsg.keep (Kc.of_kp hK.out (fun _ _ q => q)) hgn.out
      have hrk' : RCk1 (los k) (his k) Wr r x := hrk.keep hK.out (fun b _ q => by
        rcases q with q | ⟨i, q1, q2, q3, -⟩
        · right; have := hXM.out; omega
        · left; have := hR0.out.2.2.2.2.2.1 i k q1 hlt; omega)
      clear hsg hrk
      obtain ⟨rcb, hrT, hrN, ls, ms, h4, h5, h6, h7, h8, h9, h10, h11, h12⟩ := hrk'
      obtain ⟨na, nc, hnv, -⟩ := id hrN
      have hptr := hrT.ptr
      have hsvk : Hid (svs rs0 k = r.sv) := Lib.hid (by unfold svs; rw [hr]; rfl)
      obtain ⟨tv, sv, nv, cb⟩ := r
      simp only at rcb hnv hptr h4 h5 h9 h11 h12 hrT hrN hsg' hsvk
      subst hnv rcb
      obtain ⟨ra, rc, hsv⟩ := own_head h4
      obtain ⟨m, hm⟩ : ∃ y, ls.length = y := ⟨_, rfl⟩
      rw [hm] at h4 hsv h8
      subst hsv
      have hmk : Hid (x.ks.length = m) := Lib.hid (by rw [← h10, List.length_map]; exact hm)
      obtain ⟨po, rfl⟩ : ∃ o, tv = .pointer o := by rcases hptr with ⟨-, e⟩ | ⟨-, B, e⟩; exact ⟨_, e⟩; exact ⟨_, e⟩
      obtain ⟨d0, d1, d2, d3, d4, d5⟩ := segs6 (show Seg Wr g (k * 6) [.pointer po, .slice ra m rc, .slice na x.nn nc, .int .i32 0, .int .u8 x.cb, .bool false] from hsg')
      have hm2 : m ≤ 1048576 := by have := hks.out x (List.mem_of_getElem? hx); rw [hmk.out] at this; exact this
      replace hm := Lib.hid hm
      have hV : Hid (Vis M (los k) (his k) (Fut X n los his (k + 1)) (.slice ra m rc) m ms) := Lib.hid ⟨by have := hXM.out; omega, h5, h6, h7, h8, fun b q => by
        have := hXM.out
        rcases q with q | ⟨i, q1, q2, q3, q4⟩
        · exact ⟨by omega, .inr (by omega)⟩
        have := hlX.out i q2
        have := hR0.out.2.2.2.2.2.1 k i (by omega) q2
        exact ⟨by omega, .inr (by omega)⟩⟩
      replace hx := Lib.hid hx; replace hr := Lib.hid hr; replace h4 := Lib.hid h4; replace h9 := Lib.hid h9; replace h10 := Lib.hid h10; replace h11 := Lib.hid h11; replace h12 := Lib.hid h12; replace hXk := Lib.hid hXk
      clear hsg' h5 h6 h7 h8 hrT hrN hptr
      have mk := make0_z (P := Try.prog) #[.nilIface, .int .i32 0, .int .i32 0] Try.underlying97 info111 m hm2 (by omega)
      have i0 : (0 : Int) ≤ k := by omega
      have i1 : (k : Int) < n := by omega
      go_upto_region 8 with fail
      clear mk
      refine wp_gen (fun W2 hW => ?_)
      have b2 : Hid (Below Wr.heap.size Wr W2) := Lib.hid (by rw [hW]; exact (ba _ _).alloc (by simp) _)
      have sP : Hid (Seg W2 Wr.heap.size 0 [.pointer po, .slice (some ⟨Wr.heap.size + 1, 0, none⟩) 0 m, .slice na x.nn nc, .int .i32 0, .int .u8 x.cb, .bool false]) := Lib.hid (by rw [hW]; exact (Seg.new _ _ _).after (ba _ _))
      have rP : Hid (Room W2 Wr.heap.size 6) := Lib.hid (by rw [hW]; exact (Room.newN _ _ rfl _).after (ba _ _))
      have oP : Hid (W2.ownsRow 0 111 3 (.slice (some ⟨Wr.heap.size + 1, 0, none⟩) 0 m) 0 []) := Lib.hid (by
        rw [hW]
        have := World.ownsRow_made (base := 0) (e := 111) (size := 3) (Wr.alloc (.cells #[.pointer po, .slice (some ⟨Wr.heap.size + 1, 0, none⟩) 0 m, .slice na x.nn nc, .int .i32 0, .int .u8 x.cb, .bool false] 102)) (madeCells #[.nilIface, .int .i32 0, .int .i32 0] (m * 3)) m (by omega) (by unfold maxLen; omega) (by rw [size_madeCells])
        simpa using this)
      clear hW d0 d1 d2 d3 d4 d5
      obtain ⟨acc, hacc⟩ : ∃ y, (l.take k).foldl compStep [] = y := ⟨_, rfl⟩
      rw [hacc] at hA
      replace hacc := Lib.hid hacc
      have hIn := Lib.hid (InS.start hV.out hA.out (fun b q => by
        rcases q with q | q | ⟨i, q1, q2, q3⟩
        · exact .inr ⟨k, Nat.le_refl _, hlt, q⟩
        · exact .inl q
        · exact .inr ⟨i, by omega, q2, q3⟩) b2.out hMr (Nat.le_refl _) (x := x) (sv := .slice (some ⟨Wr.heap.size + 1, 0, none⟩) 0 m) (fun b q => by simp [Ob, Value.ownBlock] at q; omega) (fun q => by simp [Ob, Value.ownBlock] at q) oP.out sP.out rP.out (h11.out) (h12.out))
      obtain ⟨P, hP⟩ : ∃ y, Wr.heap.size = y := ⟨_, rfl⟩
      have hPw := Lib.hid hP
      have hK2 : Hid (Kp (WrS M (los k) (.slice ra m rc) (ms 0)) Wr W2) := Lib.hid (Kp.of b2.out)
      rw [hP] at hIn hMr ⊢
      clear hP sP rP oP
      obtain ⟨b0, hb0⟩ : ∃ y, P + 1 = y := ⟨_, rfl⟩
      rw [hb0] at hIn ⊢
      clear hb0
      go_wp2
      go_loopw [7, 43] (fun v i wr => ∃ (j n2 : Nat) (va2 : Option Addr) (vc2 : Nat) (rs2 : List MR) (sa : Option Addr) (sn sc : Nat), j ≤ m ∧ i = .int .i64 j ∧ v = .slice va2 n2 vc2 ∧ InS M (los k) (his k) (Fut X n los his (k + 1)) (.slice ra m rc) (ms j) P wr (.slice va2 n2 vc2) n2 rs2 (.slice sa sn sc) ((x.ks.take j).foldl subStep (acc, newC x)) ∧ Kp (WrS M (los k) (.slice ra m rc) (ms j)) Wr wr) (fun _ i _ => m - (intOf i).toNat)
      case atStart => exact ⟨0, n', va, vc, rs, _, _, _, by omega, rfl, rfl, hIn.out, hK2.out⟩
      case round =>
        clear hIn hK2
        obtain ⟨j, n2, va2, vc2, rs2, sa, sn, sc, hj, rfl, rfl, hIn, hK2⟩ := hrel
        obtain ⟨W3, rfl⟩ : ∃ y, y = wr := ⟨_, rfl⟩
        replace hIn := Lib.hid hIn; replace hK2 := Lib.hid hK2
        have hM3 : M ≤ W3.heap.size := by have := hK2.out.size; have := hPw.out; omega
        by_cases hltj : j < m
        · obtain ⟨s, hs⟩ : ∃ s, ls[j]? = some s := ⟨_, List.getElem?_eq_getElem (by rw [hm.out]; exact hltj)⟩
          have hy : x.ks[j]? = some s.k := by rw [← h10.out, List.getElem?_map, hs]; rfl
          have hszj := sz_at hx.out hy
          rw [hacc.out] at hszj
          have hnx := foldl_take subStep (acc, newC x) hy
          obtain ⟨st, hst⟩ : ∃ y, (x.ks.take j).foldl subStep (acc, newC x) = y := ⟨_, rfl⟩
          rw [hst] at hIn hszj hnx
          clear hst
          have hG := Lib.hid (WrS.sub hV.out hltj hK2.out (h9.out j s hs))
          have h43 := WrS.own hV.out hK2.out h4.out
          obtain ⟨gr, hgr⟩ : ∃ gr, ra = some ⟨gr, 0, none⟩ := by
            obtain ⟨gr, cr, er, -⟩ := own_some h43 (by omega)
            injection er with er
            exact ⟨gr, er⟩
          subst hgr
          have hsg : Seg W3 gr (j * 3) s.cells := own_seg h43 (fun i v hi => by
            have hj6 : i < 3 := by have := (List.getElem?_eq_some_iff.1 hi).1; simpa [SubR.cells] using this
            rw [flat_at SubR.cells 3 (fun _ => rfl) ls j i s hs hj6]
            exact hi)
          obtain ⟨t0, t1, t2⟩ := segs3 (show Seg W3 gr (j * 3) [.iface s.t s.p, .int .i32 0, .int .i32 0] from hsg)
          clear hsg h43
          have hKn : Hid (Kp (WrS M (los k) (.slice (some ⟨gr, 0, none⟩) m rc) (ms (j + 1))) Wr W3) := Lib.hid (hK2.out.wide (WrS.mono (hV.out.mono j)))
          have hwr : Hid (∀ b, (b = P ∨ Ob (.slice sa sn sc) b ∨ Ob (.slice va2 n2 vc2) b) → WrS M (los k) (.slice (some ⟨gr, 0, none⟩) m rc) (ms (j + 1)) b) := Lib.hid (fun b q => WrS.mono (hV.out.mono j) b (hIn.out.wr b q))
          have j0 : (0 : Int) ≤ j := by omega
          have j1 : (j : Int) < m := by omega
          replace hs := Lib.hid hs; replace hy := Lib.hid hy; replace hszj := Lib.hid hszj; replace hnx := Lib.hid hnx
          obtain ⟨t, p, y⟩ := s
          simp only at t0 hy hszj hnx
          cases y with
          | inl nm =>
            obtain ⟨rfl, B, rfl, -, hsB, -⟩ := id hG.out
            have hc : W3.cell? ⟨B, 0, none⟩ = some (.string nm) := by simpa using hsB 0 _ rfl
            have hc' := fun o => al hc o
            have tq := fun W' => ta124 (.pointer (some ⟨B, 0, none⟩)) W'
            clear hsB
            by_cases g1 : nm.toList = [103, 108, 111, 98, 97, 108]
            · have q1 : (nm.toList == [103, 108, 111, 98, 97, 108]) = true := by rw [g1]; rfl
              have hsub : Hid (subStep st (.inl nm) = st) := Lib.hid (by
                have : isLg (.inl nm) = true := by show lgN nm = true; unfold lgN; rw [q1]; rfl
                unfold subStep; rw [this]; rfl)
              go_wp2
              go_roundw
              case rel => exact ⟨j + 1, n2, va2, vc2, rs2, sa, sn, sc, by omega, by go_num, rfl, by rw [hnx.out, hsub.out]; exact (hIn.out.after (ba _ _)).shift (hV.out.mono j), hKn.out.trans (Kp.of (ba _ _))⟩
              case measure => simp [intOf]; omega
            · have q1 : (nm.toList == [103, 108, 111, 98, 97, 108]) = false := by simp [g1]
              by_cases g2 : nm.toList = [108, 111, 99, 97, 108]
              · have q2 : (nm.toList == [108, 111, 99, 97, 108]) = true := by rw [g2]; rfl
                have hsub : Hid (subStep st (.inl nm) = st) := Lib.hid (by
                  have : isLg (.inl nm) = true := by show lgN nm = true; unfold lgN; rw [q2]; simp
                  unfold subStep; rw [this]; rfl)
                go_wp2
                go_roundw
                case rel => exact ⟨j + 1, n2, va2, vc2, rs2, sa, sn, sc, by omega, by go_num, rfl, by rw [hnx.out, hsub.out]; exact (hIn.out.after (ba _ _)).shift (hV.out.mono j), hKn.out.trans (Kp.of (ba _ _))⟩
                case measure => simp [intOf]; omega
              · have q2 : (nm.toList == [108, 111, 99, 97, 108]) = false := by simp [g2]
                have hsub : Hid (subStep st (.inl nm) = addS st (.inl nm)) := Lib.hid (by
                  have : isLg (.inl nm) = false := by show lgN nm = false; unfold lgN; rw [q1, q2]; rfl
                  unfold subStep; rw [this]; rfl)
                obtain ⟨tvc, nvc, kc, hSc, hRc, -, hc1, hc2, lsc, hc3, hc4, hc5, hc6, hc7⟩ := hIn.out.2.1
                obtain rfl : sn = kc := by obtain ⟨ac, cc, e⟩ := own_head hc4; injection e
                have hsn2 : sn ≤ 1048576 := by
                  have h1 : lsc.length = st.2.ks.length := by rw [← hc7, List.length_map]
                  have h2 := hszj.out
                  have h3 := hT.out
                  simp only [sz] at h2
                  omega
                replace hSc := Lib.hid hSc; replace hRc := Lib.hid hRc; replace hc1 := Lib.hid hc1; replace hc2 := Lib.hid hc2; replace hc3 := Lib.hid hc3; replace hc4 := Lib.hid hc4; replace hc5 := Lib.hid hc5; replace hc6 := Lib.hid hc6; replace hc7 := Lib.hid hc7
                go_upto_region 28 with fail
                refine wp_gen (fun W4 hW => ?_)
                have b4 : Hid (Below W3.heap.size W3 W4) := Lib.hid (by rw [hW]; exact ba _ _)
                have u0 : W4.cell? ⟨W3.heap.size, 0, none⟩ = some (.iface 124 (.pointer (some ⟨B, 0, none⟩))) := by rw [hW]; simp [go_sem]
                have u1 : W4.cell? ⟨W3.heap.size, 1, none⟩ = some (.int .i32 0) := by rw [hW]; simp [go_sem]
                have u2 : W4.cell? ⟨W3.heap.size, 2, none⟩ = some (.int .i32 0) := by rw [hW]; simp [go_sem]
                clear hW t0 t1 t2 hc hc'
                obtain ⟨x0, x1, x2, x3, x4, x5⟩ := segs6 (hSc.out.after b4.out)
                simp only [Nat.zero_add] at x0 x1 x2 x3 x4 x5
                have f1 : W4.frozen? ⟨P, 1, none⟩ = false := by obtain ⟨_, _, h⟩ := (hRc.out.after b4.out) 1 (by omega); exact h
                have hPn : Hid (¬ Ob (.slice sa sn sc) P) := Lib.hid (fun q => hc5.out P q (.inr (.inl rfl)))
                have hO4 := Lib.hid (own_below hc4.out b4.out)
                clear x0 x2 x3 x4 x5
                go_wp2_with (at_builtin; go_loud (refine app1n (w := W4) (.tmp 121) (.tmp 123) 97 111 0 3 24 #[.nilIface, .int .i32 0, .int .i32 0] #[.iface 124 (.pointer (some ⟨B, 0, none⟩)), .int .i32 0, .int .i32 0] _ sn _ rfl rfl rfl rfl rfl Try.underlying97 info111 rfl (by omega) hO4.out rfl (by simp [Value.oneCell']) (by omega) (by omega) (by omega) ?_); intro v8 w8 hO8 hkp hnew; obtain ⟨g8, c8, hu, -⟩ := own_some hO8 (by omega); subst hu; have x1' := hkp.cell x1 hPn.out; have f1' := hkp.froz x1 f1 hPn.out; replace hO8 := Lib.hid hO8; replace hkp := Lib.hid hkp; replace hnew := Lib.hid hnew)
                have hAd := InS.add hV.out hltj hIn.out.1 hM3 hSc.out hRc.out hIn.out.2.2.2 hc1.out hc2.out hc3.out hc4.out hc5.out hc6.out hIn.out.2.2.1 hG.out b4.out hO8.out hkp.out hnew.out rfl
                rw [hc7.out] at hAd
                replace hAd := Lib.hid hAd
                go_roundw
                case rel => exact ⟨j + 1, n2, va2, vc2, rs2, _, sn + 1, c8, by omega, by go_num, rfl, by rw [hnx.out, hsub.out]; exact hAd.out.1, hKn.out.trans (hAd.out.2.wide (fun b q => hwr.out b (q.imp id .inl)))⟩
                case measure => simp [intOf]; omega
          | inr q =>
            obtain ⟨kd, li⟩ := q
            obtain ⟨ht, Z, Y, c1, gi, ci, ms', rs', hp, hZ, hYc, hlc, hInn⟩ := G1.list (hV.out.le hltj).2.1 hG.out rfl
            simp only at ht hp
            subst ht hp
            have tq1 := fun W' => tb128 (.pointer (some ⟨Z, 0, none⟩)) W'
            have tq2 := fun W' => tc128 (.pointer (some ⟨Z, 0, none⟩)) W'
            obtain ⟨w0, -, -, w3⟩ := segs4' hZ
            simp only [Nat.zero_add] at w0 w3
            have w3' := fun o => al w3 o
            replace hYc := Lib.hid hYc; replace hInn := Lib.hid hInn; replace hlc := Lib.hid hlc; replace w0 := Lib.hid w0
            clear hZ
            by_cases g1 : kd = 0
            · have q1 : (kd == 0) = true := by simp [g1]
              have hlg1 : isLg (.inr (kd, li)) = true := by show ((kd == 0) || (kd == 3)) = true; rw [q1]; rfl
              clear g1
              have hne1 := hne.out x (List.mem_of_getElem? hx.out) kd li (List.mem_of_getElem? hy.out) hlg1
              have hsub : Hid (subStep st (.inr (kd, li)) = wrapStep st li) := Lib.hid (by unfold subStep; rw [hlg1]; rfl)
              obtain ⟨t, hx0, hwt, hcb0, hcb1⟩ := li_first hne1
              clear hlg1 hne1
              obtain ⟨ln, hln⟩ : ∃ y, li.length = y := ⟨_, rfl⟩
              have hlpos : 0 < ln := by rw [← hln]; exact (List.getElem?_eq_some_iff.1 hx0).1
              rw [hln] at hYc hlc
              have hlc' := hlc.out
              have hwln : ln ≤ wI li := by rw [← hln]; exact wI_len li
              replace hln := Lib.hid hln; replace hcb0 := Lib.hid hcb0; replace hcb1 := Lib.hid hcb1; replace hx0 := Lib.hid hx0
              obtain ⟨l1, l2, l3⟩ := hV.out.le hltj
              go_upto_region 18 with fail
              refine wp_gen (fun W4 hW => ?_)
              have b4 : Hid (Below W3.heap.size W3 W4) := Lib.hid (by rw [hW]; exact ba _ _)
              clear hW t0 t1 t2 w3 w3' tq1 tq2
              have z4 := b4.out.size
              have hI4 := Lib.hid (hIn.out.after b4.out)
              have hN4 : Hid (InnS (.slice (some ⟨gr, 0, none⟩) m rc) (ms j) (ms (j + 1)) W4 gi ms' rs' li) := Lib.hid (hInn.out.keep (S := fun _ => False) l2 (Kp.of b4.out) (fun _ _ q => q.elim))
              have hK4 := Lib.hid (hKn.out.trans (Kp.of b4.out))
              have w0' := ac b4.out w0.out
              have hYc' := ac b4.out hYc.out
              obtain ⟨r0, hr0, hs0, hk0⟩ := hN4.out.at hx0.out
              obtain ⟨po0, sa0, sc0, na0, nc0, er0⟩ := hk0.shape
              subst er0
              obtain ⟨e0, e1, e2, e3, e4, e6⟩ := segs6 (show Seg W4 gi (0 * 6) [.pointer po0, .slice sa0 t.ks.length sc0, .slice na0 t.nn nc0, .int .i32 0, .int .u8 t.cb, .bool false] from hs0)
              simp only [Nat.zero_mul, Nat.zero_add] at e0 e1 e2 e3 e4 e6
              replace hk0 := Lib.hid hk0
              replace hr0 := Lib.hid hr0
              clear hs0 hIn hInn hKn b4 w0 hYc
              go_upto_if 91 with fail
              go_cut [15] (fun v wx => ∃ (q rn rq d : Nat) (sa' : Option Addr) (sn' sc' : Nat), v = .slice (some ⟨gi, q, none⟩) rn rq ∧ rn ≤ rq ∧ rst li = li.drop d ∧ d + rn = ln ∧ (0 < rn → q = d * 6) ∧ InS M (los k) (his k) (Fut X n los his (k + 1)) (.slice (some ⟨gr, 0, none⟩) m rc) (mk3 (ms j) (ms (j + 1)) (ms' d)) P wx (.slice va2 n2 vc2) n2 rs2 (.slice sa' sn' sc') (st.1, mrg st.2 li) ∧ InnS (.slice (some ⟨gr, 0, none⟩) m rc) (ms j) (ms (j + 1)) wx gi ms' rs' li ∧ Kp (WrS M (los k) (.slice (some ⟨gr, 0, none⟩) m rc) (ms (j + 1))) Wr wx)
              case first =>
                by_cases ht0 : t.cb = 0
                · have q : (t.cb == 0) = true := by simp [ht0]
                  obtain ⟨hmg, hrs⟩ := hcb0.out ht0 st.2
                  obtain ⟨q3, hq3, hsl⟩ := sl_1 gi ln ci hlpos hlc'
                  have hI5 := Lib.hid (hI4.out.shift (mk3_ge (ms j) (ms (j + 1)) (ms' 1)))
                  have C28 := Lib.hid (merge28_c (AvO (his k) (Fut X n los his (k + 1)) (.slice va2 n2 vc2) P (mk3 (ms j) (ms (j + 1)) (ms' 1))) _ P (.slice sa sn sc) st.2 _ t (by
                    have h2 := hszj.out
                    have h3 := hT.out
                    simp only [sz, wt] at h2
                    omega) W4 hI5.out.2.1 hk0.out (InS.mrgO hV.out hltj hI4.out (ms' 0) (ms' (0 + 1))) (fun b q => by
                    rcases q with q | q | q | q
                    · exact (hI4.out.1.1.lt b q).2
                    · obtain ⟨_, _, _, -, hRm, -⟩ := hI4.out.2.1
                      have := hRm.lt (by omega)
                      omega
                    · have := hV.out.hi_le; omega
                    · have := (hV.out.fut b q).1; omega))
                  replace hmg := Lib.hid hmg; replace hrs := Lib.hid hrs; replace hq3 := Lib.hid hq3
                  clear ht0
                  go_wp2_with (go_at_call 28; (with_reducible refine C28.out.mono ?_); rintro e w8 ⟨⟨v8, rfl⟩, sv8, hc8, hk8, hn8⟩; replace hc8 := Lib.hid hc8; replace hk8 := Lib.hid hk8; replace hn8 := Lib.hid hn8)
                  obtain ⟨a8, n8, c8, rfl⟩ : ∃ a n c, sv8 = .slice a n c := by
                    obtain ⟨_, _, _, -, -, -, -, -, ls8, -, h8, -⟩ := hc8.out
                    obtain ⟨a, c, e⟩ := own_head h8
                    exact ⟨a, _, c, e⟩
                  have hres := hI5.out.merged (by omega) hc8.out hk8.out hn8.out
                  have hinn := hN4.out.keep l2 hk8.out (fun c _ q => by
                    have := hV.out.hi_le
                    rcases q with q | q
                    · have := hI4.out.2.2.2; omega
                    · rcases hI4.out.2.2.1 c q with q | q
                      · right; omega
                      · left; exact q.2.1)
                  have hkp := hK4.out.trans (hk8.out.wide (fun b q => hwr.out b (q.imp id .inl)))
                  go_meet
                  exact ⟨q3, ln - 1, ci - 1, 1, a8, n8, c8, rfl, by omega, hrs.out, by omega, hq3.out, by rw [hmg.out]; exact hres, hinn, hkp⟩
                · have q : (t.cb == 0) = false := by simp [ht0]
                  obtain ⟨hmg, hrs⟩ := hcb1.out ht0 st.2
                  replace hmg := Lib.hid hmg; replace hrs := Lib.hid hrs
                  clear ht0
                  go_wp2
                  go_meet
                  exact ⟨0, ln, ci, 0, sa, sn, sc, rfl, hlc', hrs.out, by omega, fun _ => by omega, by rw [hmg.out]; exact hI4.out.shift (mk3_ge _ _ _), hN4.out, hK4.out⟩
              case rest =>
                clear e0 e1 e2 e3 e4 e6 w0' hYc' hk0 hr0 hI4 hN4 hK4 z4
                obtain ⟨q, rn, rq, d, sa', sn', sc', rfl, hrq, hrs, hdr, hq, hI5, hN5, hK5⟩ := hcut
                obtain ⟨W5, rfl⟩ : ∃ y, y = wc := ⟨_, rfl⟩
                replace hI5 := Lib.hid hI5; replace hN5 := Lib.hid hN5; replace hK5 := Lib.hid hK5
                have hM5 : M ≤ W5.heap.size := by have := hK5.out.size; have := hPw.out; omega
                by_cases hrn : rn = 0
                · subst hrn
                  have hwrap := wrap_nil (st := st) (li := li) (by rw [hrs]; exact List.drop_eq_nil_of_le (by rw [hln.out]; omega))
                  replace hwrap := Lib.hid hwrap; replace hrs := Lib.hid hrs; replace hq := Lib.hid hq
                  go_wp2
                  go_roundw
                  case rel => exact ⟨j + 1, n2, va2, vc2, rs2, sa', sn', sc', by omega, by go_num, rfl, by rw [hnx.out, hsub.out, hwrap.out]; exact hI5.out.shift (mk3_le l2), hK5.out⟩
                  case measure => simp [intOf]; omega
                · obtain ⟨e, he⟩ : ∃ e, rn = e + 1 := ⟨rn - 1, by omega⟩
                  have hqd := Lib.hid (hq (by omega))
                  obtain ⟨z, hz, hwrap⟩ := wrap_some (st := st) hrs (e := e) (by rw [hln.out]; omega)
                  have her : e + 1 ≤ rq := by omega
                  have hde : d + (e + 1) = ln := by omega
                  replace he := Lib.hid he
                  replace hwrap := Lib.hid hwrap; replace hz := Lib.hid hz; replace hrs := Lib.hid hrs
                  have hrpos : (0 : Int) < rn := by omega
                  have hn2a : n2 + ln + 1 ≤ 1048576 := by
                    have h1 := hI5.out.1.2.2.1
                    have h2 := hszj.out
                    have h3 := hT.out
                    simp only [sz, wt] at h2
                    simp only at h1
                    omega
                  clear hq hrn
                  obtain ⟨tv5, nv5, hS5, hR5, hk5⟩ := hI5.out.2.1.rck
                  obtain ⟨po5, sa5, sc5, na5, nc5, er5⟩ := hk5.shape
                  injection er5 with er1 er2 er3 _
                  injection er2 with er4 er2 er5
                  subst er1 er2 er3 er4 er5
                  obtain ⟨s5, hs5⟩ : ∃ y, mrg st.2 li = y := ⟨_, rfl⟩
                  have C29 := Lib.hid (fun W => inval29_c (.pointer po5) s5.ty.isNone (by rw [← hs5]; exact hk5.2.1.ptr) sa' na5 s5.ks.length sc' s5.nn nc5 s5.cb false W)
                  simp only at hS5 hk5
                  rw [hs5] at hS5 hk5 hI5 hwrap
                  obtain ⟨be, hbe⟩ : ∃ y, (decide (s5.nn = 0) && s5.ty.isNone && decide (s5.ks.length = 0)) = y := ⟨_, rfl⟩
                  have hemp : Hid (emp s5 = be) := Lib.hid hbe
                  rw [hbe] at C29
                  clear hbe hs5
                  obtain ⟨y0, y1, y2, y3, y4, y5⟩ := segs6 hS5
                  simp only [Nat.zero_add] at y0 y1 y2 y3 y4 y5
                  replace hk5 := Lib.hid hk5; replace hR5 := Lib.hid hR5
                  clear hS5
                  go_upto_if 104 with (go_at_call 29; (with_reducible refine (C29.out _).mono ?_); rintro e9 w9 ⟨rfl, b9⟩; replace b9 := Lib.hid b9; replace y0 := ac b9.out y0; replace y1 := ac b9.out y1; replace y2 := ac b9.out y2; replace y3 := ac b9.out y3; replace y4 := ac b9.out y4; replace y5 := ac b9.out y5)
                  have z9 := b9.out.size
                  have hA9 := Lib.hid ((hI5.out.drop (Nat.le_refl _)).keep (S := fun _ => False) (Kp.of b9.out) (fun _ _ q => q.elim) (fun _ _ q => q))
                  have hR9 := Lib.hid (hR5.out.after b9.out)
                  have hk9 := Lib.hid (hk5.out.keep G1.keep (S := fun _ => False) (Kp.of b9.out) (fun _ _ q => q.elim) (fun _ _ q => q))
                  have hN9 := Lib.hid (hN5.out.keep (S := fun _ => False) l2 (Kp.of b9.out) (fun _ _ q => q.elim))
                  have hK9 := Lib.hid (hK5.out.trans (Kp.of b9.out))
                  have hMP : M ≤ P := hI5.out.2.2.2
                  have hvP : Hid (¬ Ob (.slice va2 n2 vc2) P) := Lib.hid (fun q => hI5.out.1.2.2.2.1 P q (.inr (.inl rfl)))
                  have hAcl : Hid (∀ b, AcP (his k) (Fut X n los his (k + 1)) P (mk3 (ms j) (ms (j + 1)) (ms' d)) b → b < w9.heap.size) := Lib.hid (fun b q => by
                    rcases q with q | q | q
                    · have := hR9.out.lt (by omega); omega
                    · have := hV.out.hi_le; omega
                    · have := (hV.out.fut b q).1; omega)
                  clear hk5 hR5 hN5 hK5 hI5 C29
                  go_cut [7] (fun v wx => ∃ (n3 : Nat) (va3 : Option Addr) (vc3 : Nat) (rs3 : List MR), v = .slice va3 n3 vc3 ∧ n3 ≤ n2 + 1 ∧ AccX M (AcP (his k) (Fut X n los his (k + 1)) P (mk3 (ms j) (ms (j + 1)) (ms' d))) wx (.slice va3 n3 vc3) n3 rs3 (st.1 ++ out1 s5) ∧ Room wx P 6 ∧ InnS (.slice (some ⟨gr, 0, none⟩) m rc) (ms j) (ms (j + 1)) wx gi ms' rs' li ∧ Kp (WrS M (los k) (.slice (some ⟨gr, 0, none⟩) m rc) (ms (j + 1))) Wr wx)
                  case first =>
                    cases be with
                    | true =>
                      have ho : Hid (out1 s5 = []) := Lib.hid (by unfold out1; rw [hemp.out]; rfl)
                      go_wp2
                      go_meet
                      exact ⟨n2, va2, vc2, rs2, rfl, by omega, by rw [ho.out, List.append_nil]; exact hA9.out, hR9.out, hN9.out, hK9.out⟩
                    | false =>
                      have ho : Hid (out1 s5 = [s5]) := Lib.hid (by unfold out1; rw [hemp.out]; rfl)
                      have hO4 := Lib.hid hA9.out.1
                      have hM9 : M ≤ w9.heap.size := by omega
                      go_wp2_with (at_builtin; go_loud (refine app1n (w := w9) (.tmp 105) (.tmp 107) 30 102 M 6 72 #[.pointer none, .slice none 0 0, .slice none 0 0, .int .i32 0, .int .u8 0, .bool false] #[.pointer po5, .slice sa' s5.ks.length sc', .slice na5 s5.nn nc5, .int .i32 0, .int .u8 s5.cb, .bool false] _ n2 _ rfl rfl rfl rfl rfl Try.underlying30 info102 rfl (by omega) hO4.out rfl (arr6_one rfl rfl rfl rfl rfl rfl) (by omega) (by omega) hM9 ?_); intro v10 w10 hO8 hkp hnew; obtain ⟨g8, c8, hu, -⟩ := own_some hO8 (by omega); subst hu; replace hO8 := Lib.hid hO8; replace hkp := Lib.hid hkp; replace hnew := Lib.hid hnew)
                      have hPu := hA9.out.push (m := 1) (news := [⟨.pointer po5, .slice sa' s5.ks.length sc', .slice na5 s5.nn nc5, s5.cb⟩]) (accN := [s5]) rfl rfl (fun i r y hr hy => by
                        cases i with
                        | zero =>
                          injection hr with hr
                          injection hy with hy
                          subst hr
                          subst hy
                          exact hk9.out
                        | succ i => simp at hr) (by simpa [flat, MR.cells] using hO8.out) hkp.out hnew.out hAcl.out
                      have hR10 := room_kept hR9.out hkp.out hvP.out
                      have hN10 := hN9.out.keep l2 hkp.out (fun c _ q => by have := (hA9.out.1.lt c q).1; have := hV.out.hi_le; right; omega)
                      have hK10 := hK9.out.trans (hkp.out.wide (fun b q => .inl (hA9.out.1.lt b q).1))
                      go_meet
                      exact ⟨n2 + 1, _, c8, _, rfl, by omega, by rw [ho.out]; exact hPu, hR10, hN10, hK10⟩
                  case rest =>
                    clear y0 y1 y2 y3 y4 y5 hA9 hR9 hk9 hN9 hK9 hvP hAcl hemp z9
                    obtain ⟨n3, va3, vc3, rs3, rfl, hn3, hA6, hR6, hN6, hK6⟩ := hcut
                    obtain ⟨W6, rfl⟩ : ∃ y, y = wc := ⟨_, rfl⟩
                    replace hA6 := Lib.hid hA6; replace hR6 := Lib.hid hR6; replace hN6 := Lib.hid hN6; replace hK6 := Lib.hid hK6
                    have hM6 : M ≤ W6.heap.size := by have := hK6.out.size; have := hPw.out; omega
                    have hvM6 : Hid (∀ b, Ob (.slice va3 n3 vc3) b → M ≤ b) := Lib.hid (fun b q => (hA6.out.1.lt b q).1)
                    have hvP6 : Hid (¬ Ob (.slice va3 n3 vc3) P) := Lib.hid (fun q => hA6.out.2.2.2.1 P q (.inl rfl))
                    have hA7 : Hid (AccX M (AcP (his k) (Fut X n los his (k + 1)) P (mk3 (ms j) (ms (j + 1)) (ms' (d + e)))) W6 (.slice va3 n3 vc3) n3 rs3 (st.1 ++ out1 s5)) := Lib.hid (hA6.out.keep (S := fun _ => False) (Kp.refl _) (fun _ _ q => q.elim) (fun b _ q => by
                      have := mk3_mono (a := ms j) (b := ms (j + 1)) (mono_le hN6.out.2.1 (show d ≤ d + e by omega))
                      rcases q with q | q | q
                      · exact .inl q
                      · exact .inr (.inl ⟨by omega, q.2⟩)
                      · exact .inr (.inr q)))
                    have hAcl : Hid (∀ b, AcP (his k) (Fut X n los his (k + 1)) P (mk3 (ms j) (ms (j + 1)) (ms' (d + e))) b → b < W6.heap.size) := Lib.hid (fun b q => by
                      rcases q with q | q | q
                      · have := hR6.out.lt (by omega); omega
                      · have := hV.out.hi_le; omega
                      · have := (hV.out.fut b q).1; omega)
                    obtain ⟨m1, m2, m3, m4⟩ := hN6.out.mid d e (by rw [hln.out]; omega)
                    have m5 := InnS.midK hV.out hltj hN6.out d e (by rw [hln.out]; omega) hvM6.out hMP
                    have hsl : ∀ W : World, (Instr.sliceAt 30 (.slice (some ⟨gi, q, none⟩) rn rq) none (some (.int .i64 ((rn : Int) - 1))) none).run Try.prog W = .ok (.slice (some ⟨gi, q, none⟩) e rq) W := fun W => by
                      have := sl_h gi q rn rq e (by omega) W
                      rw [← this, he.out]
                      congr 3
                      simp
                    have hwr := wk64 (x := (rn : Int) - 1) (by omega) (by omega)
                    replace hA6 := hA7
                    clear hA7
                    have hO6 := Lib.hid hA6.out.1
                    rw [← hqd.out] at m2
                    replace m1 := Lib.hid m1; replace m2 := Lib.hid m2; replace m3 := Lib.hid m3; replace m4 := Lib.hid m4; replace m5 := Lib.hid m5
                    go_upto_region 27 with (at_builtin; go_loud (refine appQ (w := W6) (.tmp 109) (.tmp 113) 30 102 M 6 72 #[.pointer none, .slice none 0 0, .slice none 0 0, .int .i32 0, .int .u8 0, .bool false] _ n3 _ gi q e rq _ rfl rfl rfl rfl Try.underlying30 info102 rfl (by omega) hO6.out m4.out m2.out m3.out (by omega) (by omega) hM6 ?_); intro v11 w11 hO8 hkp hnew; replace hO8 := Lib.hid hO8; replace hkp := Lib.hid hkp; replace hnew := Lib.hid hnew)
                    obtain ⟨a11, c11, rfl⟩ := own_head hO8.out
                    have hPu := Lib.hid (hA6.out.push (m := e) (accN := ((li.drop d).take e).map ofI) m1.out (by rw [List.length_map, List.length_take, List.length_drop, hln.out]; omega) m5.out hO8.out hkp.out hnew.out hAcl.out)
                    have hR11 := Lib.hid (room_kept hR6.out hkp.out hvP6.out)
                    have hN11 := Lib.hid (hN6.out.keep l2 hkp.out (fun c _ q => by have := hvM6.out c q; have := hV.out.hi_le; right; omega))
                    have hK11 := Lib.hid (hK6.out.trans (hkp.out.wide (fun b q => .inl (hvM6.out b q))))
                    obtain ⟨rz, hrz, hsz, hkz⟩ := hN11.out.at hz.out
                    obtain ⟨poz, saz, scz, naz, ncz, erz⟩ := hkz.shape
                    subst erz
                    obtain ⟨x0, x1, x2, x3, x4, x5⟩ := segs6 (show Seg w11 gi ((d + e) * 6) [.pointer poz, .slice saz z.ks.length scz, .slice naz z.nn ncz, .int .i32 0, .int .u8 z.cb, .bool false] from hsz)
                    rw [show (d + e) * 6 = q + (rn - 1) * 6 by rw [hqd.out, he.out]; omega] at x0 x1 x2 x3 x4 x5
                    obtain ⟨_, y0, f0⟩ := hR11.out 0 (by omega)
                    obtain ⟨_, y1, f1⟩ := hR11.out 1 (by omega)
                    obtain ⟨_, y2, f2⟩ := hR11.out 2 (by omega)
                    obtain ⟨_, y3, f3⟩ := hR11.out 3 (by omega)
                    obtain ⟨_, y4, f4⟩ := hR11.out 4 (by omega)
                    obtain ⟨_, y5, f5⟩ := hR11.out 5 (by omega)
                    replace hrz := Lib.hid hrz; replace hkz := Lib.hid hkz
                    have i2 : (0 : Int) ≤ rn - 1 := by omega
                    have i3 : (rn : Int) - 1 < rn := by omega
                    clear hsz hsl m1 m2 m3 m4 m5 hA6 hR6 hN6 hK6 hO6 hO8 hkp hnew hAcl hvM6 hvP6
                    have hJ := fun W' hw => InS.jump (W' := W') hV.out hltj hPu.out hkz.out hR11.out hMP hw
                    replace hJ := Lib.hid hJ
                    go_wp2
                    go_roundw
                    case rel => exact ⟨j + 1, n3 + e, a11, c11, _, saz, z.ks.length, scz, by omega, by go_num, rfl, by rw [hnx.out, hsub.out, hwrap.out]; exact (hJ.out _ rfl).1, hK11.out.trans ((hJ.out _ rfl).2.wide (fun b q => .inl (by have : b = P := q; omega)))⟩
                    case measure => simp [intOf]; omega
            · have q1 : (kd == 0) = false := by simp [g1]
              by_cases g2 : kd = 3
              · have q2 : (kd == 3) = true := by simp [g2]
                have hlg1 : isLg (.inr (kd, li)) = true := by show ((kd == 0) || (kd == 3)) = true; rw [q2]; simp
                clear g1 g2
                have hne1 := hne.out x (List.mem_of_getElem? hx.out) kd li (List.mem_of_getElem? hy.out) hlg1
                have hsub : Hid (subStep st (.inr (kd, li)) = wrapStep st li) := Lib.hid (by unfold subStep; rw [hlg1]; rfl)
                obtain ⟨t, hx0, hwt, hcb0, hcb1⟩ := li_first hne1
                clear hlg1 hne1
                obtain ⟨ln, hln⟩ : ∃ y, li.length = y := ⟨_, rfl⟩
                have hlpos : 0 < ln := by rw [← hln]; exact (List.getElem?_eq_some_iff.1 hx0).1
                rw [hln] at hYc hlc
                have hlc' := hlc.out
                have hwln : ln ≤ wI li := by rw [← hln]; exact wI_len li
                replace hln := Lib.hid hln; replace hcb0 := Lib.hid hcb0; replace hcb1 := Lib.hid hcb1; replace hx0 := Lib.hid hx0
                obtain ⟨l1, l2, l3⟩ := hV.out.le hltj
                go_upto_region 18 with fail
                refine wp_gen (fun W4 hW => ?_)
                have b4 : Hid (Below W3.heap.size W3 W4) := Lib.hid (by rw [hW]; exact ba _ _)
                clear hW t0 t1 t2 w3 w3' tq1 tq2
                have z4 := b4.out.size
                have hI4 := Lib.hid (hIn.out.after b4.out)
                have hN4 : Hid (InnS (.slice (some ⟨gr, 0, none⟩) m rc) (ms j) (ms (j + 1)) W4 gi ms' rs' li) := Lib.hid (hInn.out.keep (S := fun _ => False) l2 (Kp.of b4.out) (fun _ _ q => q.elim))
                have hK4 := Lib.hid (hKn.out.trans (Kp.of b4.out))
                have w0' := ac b4.out w0.out
                have hYc' := ac b4.out hYc.out
                obtain ⟨r0, hr0, hs0, hk0⟩ := hN4.out.at hx0.out
                obtain ⟨po0, sa0, sc0, na0, nc0, er0⟩ := hk0.shape
                subst er0
                obtain ⟨e0, e1, e2, e3, e4, e6⟩ := segs6 (show Seg W4 gi (0 * 6) [.pointer po0, .slice sa0 t.ks.length sc0, .slice na0 t.nn nc0, .int .i32 0, .int .u8 t.cb, .bool false] from hs0)
                simp only [Nat.zero_mul, Nat.zero_add] at e0 e1 e2 e3 e4 e6
                replace hk0 := Lib.hid hk0
                replace hr0 := Lib.hid hr0
                clear hs0 hIn hInn hKn b4 w0 hYc
                go_upto_if 91 with fail
                go_cut [15] (fun v wx => ∃ (q rn rq d : Nat) (sa' : Option Addr) (sn' sc' : Nat), v = .slice (some ⟨gi, q, none⟩) rn rq ∧ rn ≤ rq ∧ rst li = li.drop d ∧ d + rn = ln ∧ (0 < rn → q = d * 6) ∧ InS M (los k) (his k) (Fut X n los his (k + 1)) (.slice (some ⟨gr, 0, none⟩) m rc) (mk3 (ms j) (ms (j + 1)) (ms' d)) P wx (.slice va2 n2 vc2) n2 rs2 (.slice sa' sn' sc') (st.1, mrg st.2 li) ∧ InnS (.slice (some ⟨gr, 0, none⟩) m rc) (ms j) (ms (j + 1)) wx gi ms' rs' li ∧ Kp (WrS M (los k) (.slice (some ⟨gr, 0, none⟩) m rc) (ms (j + 1))) Wr wx)
                case first =>
                  by_cases ht0 : t.cb = 0
                  · have q : (t.cb == 0) = true := by simp [ht0]
                    obtain ⟨hmg, hrs⟩ := hcb0.out ht0 st.2
                    obtain ⟨q3, hq3, hsl⟩ := sl_1 gi ln ci hlpos hlc'
                    have hI5 := Lib.hid (hI4.out.shift (mk3_ge (ms j) (ms (j + 1)) (ms' 1)))
                    have C28 := Lib.hid (merge28_c (AvO (his k) (Fut X n los his (k + 1)) (.slice va2 n2 vc2) P (mk3 (ms j) (ms (j + 1)) (ms' 1))) _ P (.slice sa sn sc) st.2 _ t (by
                      have h2 := hszj.out
                      have h3 := hT.out
                      simp only [sz, wt] at h2
                      omega) W4 hI5.out.2.1 hk0.out (InS.mrgO hV.out hltj hI4.out (ms' 0) (ms' (0 + 1))) (fun b q => by
                      rcases q with q | q | q | q
                      · exact (hI4.out.1.1.lt b q).2
                      · obtain ⟨_, _, _, -, hRm, -⟩ := hI4.out.2.1
                        have := hRm.lt (by omega)
                        omega
                      · have := hV.out.hi_le; omega
                      · have := (hV.out.fut b q).1; omega))
                    replace hmg := Lib.hid hmg; replace hrs := Lib.hid hrs; replace hq3 := Lib.hid hq3
                    clear ht0
                    go_wp2_with (go_at_call 28; (with_reducible refine C28.out.mono ?_); rintro e w8 ⟨⟨v8, rfl⟩, sv8, hc8, hk8, hn8⟩; replace hc8 := Lib.hid hc8; replace hk8 := Lib.hid hk8; replace hn8 := Lib.hid hn8)
                    obtain ⟨a8, n8, c8, rfl⟩ : ∃ a n c, sv8 = .slice a n c := by
                      obtain ⟨_, _, _, -, -, -, -, -, ls8, -, h8, -⟩ := hc8.out
                      obtain ⟨a, c, e⟩ := own_head h8
                      exact ⟨a, _, c, e⟩
                    have hres := hI5.out.merged (by omega) hc8.out hk8.out hn8.out
                    have hinn := hN4.out.keep l2 hk8.out (fun c _ q => by
                      have := hV.out.hi_le
                      rcases q with q | q
                      · have := hI4.out.2.2.2; omega
                      · rcases hI4.out.2.2.1 c q with q | q
                        · right; omega
                        · left; exact q.2.1)
                    have hkp := hK4.out.trans (hk8.out.wide (fun b q => hwr.out b (q.imp id .inl)))
                    go_meet
                    exact ⟨q3, ln - 1, ci - 1, 1, a8, n8, c8, rfl, by omega, hrs.out, by omega, hq3.out, by rw [hmg.out]; exact hres, hinn, hkp⟩
                  · have q : (t.cb == 0) = false := by simp [ht0]
                    obtain ⟨hmg, hrs⟩ := hcb1.out ht0 st.2
                    replace hmg := Lib.hid hmg; replace hrs := Lib.hid hrs
                    clear ht0
                    go_wp2
                    go_meet
                    exact ⟨0, ln, ci, 0, sa, sn, sc, rfl, hlc', hrs.out, by omega, fun _ => by omega, by rw [hmg.out]; exact hI4.out.shift (mk3_ge _ _ _), hN4.out, hK4.out⟩
                case rest =>
                  clear e0 e1 e2 e3 e4 e6 w0' hYc' hk0 hr0 hI4 hN4 hK4 z4
                  obtain ⟨q, rn, rq, d, sa', sn', sc', rfl, hrq, hrs, hdr, hq, hI5, hN5, hK5⟩ := hcut
                  obtain ⟨W5, rfl⟩ : ∃ y, y = wc := ⟨_, rfl⟩
                  replace hI5 := Lib.hid hI5; replace hN5 := Lib.hid hN5; replace hK5 := Lib.hid hK5
                  have hM5 : M ≤ W5.heap.size := by have := hK5.out.size; have := hPw.out; omega
                  by_cases hrn : rn = 0
                  · subst hrn
                    have hwrap := wrap_nil (st := st) (li := li) (by rw [hrs]; exact List.drop_eq_nil_of_le (by rw [hln.out]; omega))
                    replace hwrap := Lib.hid hwrap; replace hrs := Lib.hid hrs; replace hq := Lib.hid hq
                    go_wp2
                    go_roundw
                    case rel => exact ⟨j + 1, n2, va2, vc2, rs2, sa', sn', sc', by omega, by go_num, rfl, by rw [hnx.out, hsub.out, hwrap.out]; exact hI5.out.shift (mk3_le l2), hK5.out⟩
                    case measure => simp [intOf]; omega
                  · obtain ⟨e, he⟩ : ∃ e, rn = e + 1 := ⟨rn - 1, by omega⟩
                    have hqd := Lib.hid (hq (by omega))
                    obtain ⟨z, hz, hwrap⟩ := wrap_some (st := st) hrs (e := e) (by rw [hln.out]; omega)
                    have her : e + 1 ≤ rq := by omega
                    have hde : d + (e + 1) = ln := by omega
                    replace he := Lib.hid he
                    replace hwrap := Lib.hid hwrap; replace hz := Lib.hid hz; replace hrs := Lib.hid hrs
                    have hrpos : (0 : Int) < rn := by omega
                    have hn2a : n2 + ln + 1 ≤ 1048576 := by
                      have h1 := hI5.out.1.2.2.1
                      have h2 := hszj.out
                      have h3 := hT.out
                      simp only [sz, wt] at h2
                      simp only at h1
                      omega
                    clear hq hrn
                    obtain ⟨tv5, nv5, hS5, hR5, hk5⟩ := hI5.out.2.1.rck
                    obtain ⟨po5, sa5, sc5, na5, nc5, er5⟩ := hk5.shape
                    injection er5 with er1 er2 er3 _
                    injection er2 with er4 er2 er5
                    subst er1 er2 er3 er4 er5
                    obtain ⟨s5, hs5⟩ : ∃ y, mrg st.2 li = y := ⟨_, rfl⟩
                    have C29 := Lib.hid (fun W => inval29_c (.pointer po5) s5.ty.isNone (by rw [← hs5]; exact hk5.2.1.ptr) sa' na5 s5.ks.length sc' s5.nn nc5 s5.cb false W)
                    simp only at hS5 hk5
                    rw [hs5] at hS5 hk5 hI5 hwrap
                    obtain ⟨be, hbe⟩ : ∃ y, (decide (s5.nn = 0) && s5.ty.isNone && decide (s5.ks.length = 0)) = y := ⟨_, rfl⟩
                    have hemp : Hid (emp s5 = be) := Lib.hid hbe
                    rw [hbe] at C29
                    clear hbe hs5
                    obtain ⟨y0, y1, y2, y3, y4, y5⟩ := segs6 hS5
                    simp only [Nat.zero_add] at y0 y1 y2 y3 y4 y5
                    replace hk5 := Lib.hid hk5; replace hR5 := Lib.hid hR5
                    clear hS5
                    go_upto_if 104 with (go_at_call 29; (with_reducible refine (C29.out _).mono ?_); rintro e9 w9 ⟨rfl, b9⟩; replace b9 := Lib.hid b9; replace y0 := ac b9.out y0; replace y1 := ac b9.out y1; replace y2 := ac b9.out y2; replace y3 := ac b9.out y3; replace y4 := ac b9.out y4; replace y5 := ac b9.out y5)
                    have z9 := b9.out.size
                    have hA9 := Lib.hid ((hI5.out.drop (Nat.le_refl _)).keep (S := fun _ => False) (Kp.of b9.out) (fun _ _ q => q.elim) (fun _ _ q => q))
                    have hR9 := Lib.hid (hR5.out.after b9.out)
                    have hk9 := Lib.hid (hk5.out.keep G1.keep (S := fun _ => False) (Kp.of b9.out) (fun _ _ q => q.elim) (fun _ _ q => q))
                    have hN9 := Lib.hid (hN5.out.keep (S := fun _ => False) l2 (Kp.of b9.out) (fun _ _ q => q.elim))
                    have hK9 := Lib.hid (hK5.out.trans (Kp.of b9.out))
                    have hMP : M ≤ P := hI5.out.2.2.2
                    have hvP : Hid (¬ Ob (.slice va2 n2 vc2) P) := Lib.hid (fun q => hI5.out.1.2.2.2.1 P q (.inr (.inl rfl)))
                    have hAcl : Hid (∀ b, AcP (his k) (Fut X n los his (k + 1)) P (mk3 (ms j) (ms (j + 1)) (ms' d)) b → b < w9.heap.size) := Lib.hid (fun b q => by
                      rcases q with q | q | q
                      · have := hR9.out.lt (by omega); omega
                      · have := hV.out.hi_le; omega
                      · have := (hV.out.fut b q).1; omega)
                    clear hk5 hR5 hN5 hK5 hI5 C29
                    go_cut [7] (fun v wx => ∃ (n3 : Nat) (va3 : Option Addr) (vc3 : Nat) (rs3 : List MR), v = .slice va3 n3 vc3 ∧ n3 ≤ n2 + 1 ∧ AccX M (AcP (his k) (Fut X n los his (k + 1)) P (mk3 (ms j) (ms (j + 1)) (ms' d))) wx (.slice va3 n3 vc3) n3 rs3 (st.1 ++ out1 s5) ∧ Room wx P 6 ∧ InnS (.slice (some ⟨gr, 0, none⟩) m rc) (ms j) (ms (j + 1)) wx gi ms' rs' li ∧ Kp (WrS M (los k) (.slice (some ⟨gr, 0, none⟩) m rc) (ms (j + 1))) Wr wx)
                    case first =>
                      cases be with
                      | true =>
                        have ho : Hid (out1 s5 = []) := Lib.hid (by unfold out1; rw [hemp.out]; rfl)
                        go_wp2
                        go_meet
                        exact ⟨n2, va2, vc2, rs2, rfl, by omega, by rw [ho.out, List.append_nil]; exact hA9.out, hR9.out, hN9.out, hK9.out⟩
                      | false =>
                        have ho : Hid (out1 s5 = [s5]) := Lib.hid (by unfold out1; rw [hemp.out]; rfl)
                        have hO4 := Lib.hid hA9.out.1
                        have hM9 : M ≤ w9.heap.size := by omega
                        go_wp2_with (at_builtin; go_loud (refine app1n (w := w9) (.tmp 105) (.tmp 107) 30 102 M 6 72 #[.pointer none, .slice none 0 0, .slice none 0 0, .int .i32 0, .int .u8 0, .bool false] #[.pointer po5, .slice sa' s5.ks.length sc', .slice na5 s5.nn nc5, .int .i32 0, .int .u8 s5.cb, .bool false] _ n2 _ rfl rfl rfl rfl rfl Try.underlying30 info102 rfl (by omega) hO4.out rfl (arr6_one rfl rfl rfl rfl rfl rfl) (by omega) (by omega) hM9 ?_); intro v10 w10 hO8 hkp hnew; obtain ⟨g8, c8, hu, -⟩ := own_some hO8 (by omega); subst hu; replace hO8 := Lib.hid hO8; replace hkp := Lib.hid hkp; replace hnew := Lib.hid hnew)
                        have hPu := hA9.out.push (m := 1) (news := [⟨.pointer po5, .slice sa' s5.ks.length sc', .slice na5 s5.nn nc5, s5.cb⟩]) (accN := [s5]) rfl rfl (fun i r y hr hy => by
                          cases i with
                          | zero =>
                            injection hr with hr
                            injection hy with hy
                            subst hr
                            subst hy
                            exact hk9.out
                          | succ i => simp at hr) (by simpa [flat, MR.cells] using hO8.out) hkp.out hnew.out hAcl.out
                        have hR10 := room_kept hR9.out hkp.out hvP.out
                        have hN10 := hN9.out.keep l2 hkp.out (fun c _ q => by have := (hA9.out.1.lt c q).1; have := hV.out.hi_le; right; omega)
                        have hK10 := hK9.out.trans (hkp.out.wide (fun b q => .inl (hA9.out.1.lt b q).1))
                        go_meet
                        exact ⟨n2 + 1, _, c8, _, rfl, by omega, by rw [ho.out]; exact hPu, hR10, hN10, hK10⟩
                    case rest =>
                      clear y0 y1 y2 y3 y4 y5 hA9 hR9 hk9 hN9 hK9 hvP hAcl hemp z9
                      obtain ⟨n3, va3, vc3, rs3, rfl, hn3, hA6, hR6, hN6, hK6⟩ := hcut
                      obtain ⟨W6, rfl⟩ : ∃ y, y = wc := ⟨_, rfl⟩
                      replace hA6 := Lib.hid hA6; replace hR6 := Lib.hid hR6; replace hN6 := Lib.hid hN6; replace hK6 := Lib.hid hK6
                      have hM6 : M ≤ W6.heap.size := by have := hK6.out.size; have := hPw.out; omega
                      have hvM6 : Hid (∀ b, Ob (.slice va3 n3 vc3) b → M ≤ b) := Lib.hid (fun b q => (hA6.out.1.lt b q).1)
                      have hvP6 : Hid (¬ Ob (.slice va3 n3 vc3) P) := Lib.hid (fun q => hA6.out.2.2.2.1 P q (.inl rfl))
                      have hA7 : Hid (AccX M (AcP (his k) (Fut X n los his (k + 1)) P (mk3 (ms j) (ms (j + 1)) (ms' (d + e)))) W6 (.slice va3 n3 vc3) n3 rs3 (st.1 ++ out1 s5)) := Lib.hid (hA6.out.keep (S := fun _ => False) (Kp.refl _) (fun _ _ q => q.elim) (fun b _ q => by
                        have := mk3_mono (a := ms j) (b := ms (j + 1)) (mono_le hN6.out.2.1 (show d ≤ d + e by omega))
                        rcases q with q | q | q
                        · exact .inl q
                        · exact .inr (.inl ⟨by omega, q.2⟩)
                        · exact .inr (.inr q)))
                      have hAcl : Hid (∀ b, AcP (his k) (Fut X n los his (k + 1)) P (mk3 (ms j) (ms (j + 1)) (ms' (d + e))) b → b < W6.heap.size) := Lib.hid (fun b q => by
                        rcases q with q | q | q
                        · have := hR6.out.lt (by omega); omega
                        · have := hV.out.hi_le; omega
                        · have := (hV.out.fut b q).1; omega)
                      obtain ⟨m1, m2, m3, m4⟩ := hN6.out.mid d e (by rw [hln.out]; omega)
                      have m5 := InnS.midK hV.out hltj hN6.out d e (by rw [hln.out]; omega) hvM6.out hMP
                      have hsl : ∀ W : World, (Instr.sliceAt 30 (.slice (some ⟨gi, q, none⟩) rn rq) none (some (.int .i64 ((rn : Int) - 1))) none).run Try.prog W = .ok (.slice (some ⟨gi, q, none⟩) e rq) W := fun W => by
                        have := sl_h gi q rn rq e (by omega) W
                        rw [← this, he.out]
                        congr 3
                        simp
                      have hwr := wk64 (x := (rn : Int) - 1) (by omega) (by omega)
                      replace hA6 := hA7
                      clear hA7
                      have hO6 := Lib.hid hA6.out.1
                      rw [← hqd.out] at m2
                      replace m1 := Lib.hid m1; replace m2 := Lib.hid m2; replace m3 := Lib.hid m3; replace m4 := Lib.hid m4; replace m5 := Lib.hid m5
                      go_upto_region 27 with (at_builtin; go_loud (refine appQ (w := W6) (.tmp 109) (.tmp 113) 30 102 M 6 72 #[.pointer none, .slice none 0 0, .slice none 0 0, .int .i32 0, .int .u8 0, .bool false] _ n3 _ gi q e rq _ rfl rfl rfl rfl Try.underlying30 info102 rfl (by omega) hO6.out m4.out m2.out m3.out (by omega) (by omega) hM6 ?_); intro v11 w11 hO8 hkp hnew; replace hO8 := Lib.hid hO8; replace hkp := Lib.hid hkp; replace hnew := Lib.hid hnew)
                      obtain ⟨a11, c11, rfl⟩ := own_head hO8.out
                      have hPu := Lib.hid (hA6.out.push (m := e) (accN := ((li.drop d).take e).map ofI) m1.out (by rw [List.length_map, List.length_take, List.length_drop, hln.out]; omega) m5.out hO8.out hkp.out hnew.out hAcl.out)
                      have hR11 := Lib.hid (room_kept hR6.out hkp.out hvP6.out)
                      have hN11 := Lib.hid (hN6.out.keep l2 hkp.out (fun c _ q => by have := hvM6.out c q; have := hV.out.hi_le; right; omega))
                      have hK11 := Lib.hid (hK6.out.trans (hkp.out.wide (fun b q => .inl (hvM6.out b q))))
                      obtain ⟨rz, hrz, hsz, hkz⟩ := hN11.out.at hz.out
                      obtain ⟨poz, saz, scz, naz, ncz, erz⟩ := hkz.shape
                      subst erz
                      obtain ⟨x0, x1, x2, x3, x4, x5⟩ := segs6 (show Seg w11 gi ((d + e) * 6) [.pointer poz, .slice saz z.ks.length scz, .slice naz z.nn ncz, .int .i32 0, .int .u8 z.cb, .bool false] from hsz)
                      rw [show (d + e) * 6 = q + (rn - 1) * 6 by rw [hqd.out, he.out]; omega] at x0 x1 x2 x3 x4 x5
                      obtain ⟨_, y0, f0⟩ := hR11.out 0 (by omega)
                      obtain ⟨_, y1, f1⟩ := hR11.out 1 (by omega)
                      obtain ⟨_, y2, f2⟩ := hR11.out 2 (by omega)
                      obtain ⟨_, y3, f3⟩ := hR11.out 3 (by omega)
                      obtain ⟨_, y4, f4⟩ := hR11.out 4 (by omega)
                      obtain ⟨_, y5, f5⟩ := hR11.out 5 (by omega)
                      replace hrz := Lib.hid hrz; replace hkz := Lib.hid hkz
                      have i2 : (0 : Int) ≤ rn - 1 := by omega
                      have i3 : (rn : Int) - 1 < rn := by omega
                      clear hsz hsl m1 m2 m3 m4 m5 hA6 hR6 hN6 hK6 hO6 hO8 hkp hnew hAcl hvM6 hvP6
                      have hJ := fun W' hw => InS.jump (W' := W') hV.out hltj hPu.out hkz.out hR11.out hMP hw
                      replace hJ := Lib.hid hJ
                      go_wp2
                      go_roundw
                      case rel => exact ⟨j + 1, n3 + e, a11, c11, _, saz, z.ks.length, scz, by omega, by go_num, rfl, by rw [hnx.out, hsub.out, hwrap.out]; exact (hJ.out _ rfl).1, hK11.out.trans ((hJ.out _ rfl).2.wide (fun b q => .inl (by have : b = P := q; omega)))⟩
                      case measure => simp [intOf]; omega
              · have q2 : (kd == 3) = false := by simp [g2]
                have hsub : Hid (subStep st (.inr (kd, li)) = addS st (.inr (kd, li))) := Lib.hid (by
                  have : isLg (.inr (kd, li)) = false := by show ((kd == 0) || (kd == 3)) = false; rw [q1, q2]; rfl
                  unfold subStep; rw [this]; rfl)
                obtain ⟨tvc, nvc, kc, hSc, hRc, -, hc1, hc2, lsc, hc3, hc4, hc5, hc6, hc7⟩ := hIn.out.2.1
                obtain rfl : sn = kc := by obtain ⟨ac, cc, e⟩ := own_head hc4; injection e
                have hsn2 : sn ≤ 1048576 := by
                  have h1 : lsc.length = st.2.ks.length := by rw [← hc7, List.length_map]
                  have h2 := hszj.out
                  have h3 := hT.out
                  simp only [sz] at h2
                  omega
                replace hSc := Lib.hid hSc; replace hRc := Lib.hid hRc; replace hc1 := Lib.hid hc1; replace hc2 := Lib.hid hc2; replace hc3 := Lib.hid hc3; replace hc4 := Lib.hid hc4; replace hc5 := Lib.hid hc5; replace hc6 := Lib.hid hc6; replace hc7 := Lib.hid hc7
                go_upto_region 28 with fail
                refine wp_gen (fun W4 hW => ?_)
                have b4 : Hid (Below W3.heap.size W3 W4) := Lib.hid (by rw [hW]; exact ba _ _)
                have u0 : W4.cell? ⟨W3.heap.size, 0, none⟩ = some (.iface 128 (.pointer (some ⟨Z, 0, none⟩))) := by rw [hW]; simp [go_sem]
                have u1 : W4.cell? ⟨W3.heap.size, 1, none⟩ = some (.int .i32 0) := by rw [hW]; simp [go_sem]
                have u2 : W4.cell? ⟨W3.heap.size, 2, none⟩ = some (.int .i32 0) := by rw [hW]; simp [go_sem]
                clear hW t0 t1 t2 w3 w3'
                obtain ⟨x0, x1, x2, x3, x4, x5⟩ := segs6 (hSc.out.after b4.out)
                simp only [Nat.zero_add] at x0 x1 x2 x3 x4 x5
                have f1 : W4.frozen? ⟨P, 1, none⟩ = false := by obtain ⟨_, _, h⟩ := (hRc.out.after b4.out) 1 (by omega); exact h
                have hPn : Hid (¬ Ob (.slice sa sn sc) P) := Lib.hid (fun q => hc5.out P q (.inr (.inl rfl)))
                have hO4 := Lib.hid (own_below hc4.out b4.out)
                clear x0 x2 x3 x4 x5
                go_wp2_with (at_builtin; go_loud (refine app1n (w := W4) (.tmp 121) (.tmp 123) 97 111 0 3 24 #[.nilIface, .int .i32 0, .int .i32 0] #[.iface 128 (.pointer (some ⟨Z, 0, none⟩)), .int .i32 0, .int .i32 0] _ sn _ rfl rfl rfl rfl rfl Try.underlying97 info111 rfl (by omega) hO4.out rfl (by simp [Value.oneCell']) (by omega) (by omega) (by omega) ?_); intro v8 w8 hO8 hkp hnew; obtain ⟨g8, c8, hu, -⟩ := own_some hO8 (by omega); subst hu; have x1' := hkp.cell x1 hPn.out; have f1' := hkp.froz x1 f1 hPn.out; replace hO8 := Lib.hid hO8; replace hkp := Lib.hid hkp; replace hnew := Lib.hid hnew)
                have hAd := InS.add hV.out hltj hIn.out.1 hM3 hSc.out hRc.out hIn.out.2.2.2 hc1.out hc2.out hc3.out hc4.out hc5.out hc6.out hIn.out.2.2.1 hG.out b4.out hO8.out hkp.out hnew.out rfl
                rw [hc7.out] at hAd
                replace hAd := Lib.hid hAd
                go_roundw
                case rel => exact ⟨j + 1, n2, va2, vc2, rs2, _, sn + 1, c8, by omega, by go_num, rfl, by rw [hnx.out, hsub.out]; exact hAd.out.1, hKn.out.trans (hAd.out.2.wide (fun b q => hwr.out b (q.imp id .inl)))⟩
                case measure => simp [intOf]; omega
        · obtain rfl : j = m := by omega
          have hfold : (x.ks.take j).foldl subStep (acc, newC x) = x.ks.foldl subStep (acc, newC x) := foldl_all _ _ (by rw [hmk.out]; exact Nat.le_refl _)
          have hsz := sz_end hx.out
          rw [hacc.out] at hsz
          obtain ⟨st, hst⟩ : ∃ y, x.ks.foldl subStep (acc, newC x) = y := ⟨_, rfl⟩
          rw [hfold, hst] at hIn
          rw [hst] at hsz
          clear hfold
          have hnext : Hid ((l.take (k + 1)).foldl compStep [] = st.1 ++ out1 st.2) := Lib.hid (by rw [foldl_take compStep [] hx.out, hacc.out]; show compEnd _ = _; rw [hst]; rfl)
          clear hst
          obtain ⟨tv3, nv3, hsP, hrk3⟩ := hIn.out.stop
          obtain ⟨po3, rfl⟩ : ∃ o, tv3 = .pointer o := by rcases hrk3.2.1.ptr with ⟨-, e⟩ | ⟨-, B, e⟩; exact ⟨_, e⟩; exact ⟨_, e⟩
          obtain ⟨na3, nc3, e3, -⟩ := id hrk3.2.2.1
          simp only at e3
          subst e3
          have hsn : sn = st.2.ks.length := by
            have := hrk3.toRCo.2.2
            obtain ⟨ls3, -, h43, -⟩ := this
            obtain ⟨a3, c3, e⟩ := own_head h43
            injection e
          have hacn : n2 = st.1.length := hIn.out.1.2.2.1.symm
          have hn22 : n2 ≤ 1048576 := by have := hT.out; simp only [sz] at hsz; omega
          have C29 := Lib.hid (fun W => inval29_c (.pointer po3) st.2.ty.isNone hrk3.2.1.ptr sa na3 sn sc st.2.nn nc3 st.2.cb false W)
          obtain ⟨be, hbe⟩ : ∃ y, (decide (st.2.nn = 0) && st.2.ty.isNone && decide (sn = 0)) = y := ⟨_, rfl⟩
          have hemp : Hid (emp st.2 = be) := Lib.hid (by unfold emp; rw [← hsn]; exact hbe)
          rw [hbe] at C29
          clear hbe hsz
          replace hsn := Lib.hid hsn; replace hacn := Lib.hid hacn; replace hrk3 := Lib.hid hrk3
          obtain ⟨y0, y1, y2, y3, y4, y5⟩ := segs6 hsP
          simp only [Nat.zero_add] at y0 y1 y2 y3 y4 y5
          have hKn : Hid (Kp (Wrt M rs0 los his (k + 1)) W0 W3) := Lib.hid (Kp.trans' (hK.out.wide (fun b q => by
            rcases q with q | ⟨i, q1, q2⟩
            · exact .inl q
            · exact .inr ⟨i, by omega, q2⟩)) hK2.out (fun b q _ => by
            rcases q with q | q
            · exact .inl q
            · exact .inr ⟨k, by omega, q.1, by have := hV.out.top; omega, by rw [hsvk.out]; exact q.2.2⟩))
          cases be with
          | true =>
            have ho : Hid (out1 st.2 = []) := Lib.hid (by unfold out1; rw [hemp.out]; rfl)
            go_wp2_with (go_at_call 29; (with_reducible refine (C29.out _).mono ?_); rintro e w9 ⟨rfl, b9⟩; replace b9 := Lib.hid b9)
            go_roundw
            case rel => exact ⟨k + 1, n2, va2, vc2, rs2, by omega, by go_num, rfl, by rw [hnext.out, ho.out, List.append_nil]; exact hIn.out.stop0.keep (S := fun _ => False) (Kp.of b9.out) (fun _ _ q => q.elim) (fun _ _ q => q), hKn.out.trans (Kp.of b9.out)⟩
            case measure => simp [intOf]; omega
          | false =>
            have ho : Hid (out1 st.2 = [st.2]) := Lib.hid (by unfold out1; rw [hemp.out]; rfl)
            go_upto_region 31 with (go_at_call 29; (with_reducible refine (C29.out _).mono ?_); rintro e w9 ⟨rfl, b9⟩; replace b9 := Lib.hid b9; replace y0 := ac b9.out y0; replace y1 := ac b9.out y1; replace y2 := ac b9.out y2; replace y3 := ac b9.out y3; replace y4 := ac b9.out y4; replace y5 := ac b9.out y5)
            have hO4 := Lib.hid (own_below hIn.out.1.1 b9.out)
            have hM9 : M ≤ w9.heap.size := by have := b9.out.size; omega
            have hA9 : Hid (AccX M (Fut X n los his (k + 1)) w9 (.slice va2 n2 vc2) n2 rs2 st.1) := Lib.hid (hIn.out.stop0.keep (S := fun _ => False) (Kp.of b9.out) (fun _ _ q => q.elim) (fun _ _ q => q))
            have hr9 := Lib.hid (hrk3.out.keep G1.keep (S := fun _ => False) (Kp.of b9.out) (fun _ _ q => q.elim) (fun _ _ q => q))
            go_wp2_with (at_builtin; go_loud (refine app1n (w := w9) (.tmp 130) (.tmp 132) 30 102 M 6 72 #[.pointer none, .slice none 0 0, .slice none 0 0, .int .i32 0, .int .u8 0, .bool false] #[.pointer po3, .slice sa sn sc, .slice na3 st.2.nn nc3, .int .i32 0, .int .u8 st.2.cb, .bool false] _ n2 _ rfl rfl rfl rfl rfl Try.underlying30 info102 rfl (by omega) hO4.out rfl (arr6_one rfl rfl rfl rfl rfl rfl) (by omega) (by omega) hM9 ?_); intro v2 w8 hO8 hkp hnew; obtain ⟨g8, c8, hu, -⟩ := own_some hO8 (by omega); subst hu; replace hO8 := Lib.hid hO8; replace hkp := Lib.hid hkp; replace hnew := Lib.hid hnew)
            have hPu := hA9.out.push (m := 1) (news := [⟨.pointer po3, .slice sa sn sc, .slice na3 st.2.nn nc3, st.2.cb⟩]) (accN := [st.2]) rfl rfl (fun j r x hr hx => by
              cases j with
              | zero =>
                injection hr with hr
                injection hx with hx
                subst hr
                subst hx
                exact hr9.out
              | succ j => simp at hr) (by simpa [flat, MR.cells] using hO8.out) hkp.out hnew.out (fun b q => by
              have := hXM.out
              rcases q with q | ⟨i, q1, q2, q3, q4⟩
              · omega
              · have := hlX.out i q2; omega)
            have hK8 : Kp (Wrt M rs0 los his (k + 1)) W0 w8 := Kp.trans' (hKn.out.trans (Kp.of b9.out)) hkp.out (fun b q _ => .inl (hA9.out.1.lt b q).1)
            replace hPu := Lib.hid hPu; replace hK8 := Lib.hid hK8
            go_roundw
            case rel => exact ⟨k + 1, n2 + 1, _, c8, _, by omega, by go_num, rfl, by rw [hnext.out, ho.out]; exact hPu.out, hK8.out⟩
            case measure => simp [intOf]; omega
    · obtain rfl : k = n := by omega
      have hfull : Hid ((l.take k).foldl compStep [] = flatK l) := Lib.hid (foldl_all _ _ (by rw [hn.out]; exact Nat.le_refl _))
      have hXf : Hid (Wr.frozen? ⟨X, 0, none⟩ = false) := Lib.hid (hK.out.froz e5' f5' hXn.out)
      have hpn : Hid (¬ Wrt M rs0 los his k pb) := Lib.hid (fun q => by
        have := hpM.out
        have := hXw.out
        have := hXM.out
        rcases q with q | ⟨i, q1, q2, q3, -⟩
        · omega
        · have := hlX.out i (by omega); omega)
      have hpNr := Lib.hid (hK.out.cell hpN0.out hpn.out)
      have hpFr := Lib.hid (hK.out.froz hpN0.out hpF0.out hpn.out)
      have hpX : Hid (pb < X) := Lib.hid (by have := hpM.out; have := hXw.out; omega)
      have hBr : Hid (Below base w Wr) := Lib.hid (by
        have q1 := hXM.out
        have q2 := hpX.out
        have q3 := hXw.out
        have q4 := hW0.out
        refine (hb0.out.mono (by omega)).trans (hK.out.below (by omega) (fun b q => ?_))
        rcases q with q | ⟨i, e1, e2, e3, -⟩
        · omega
        · have := hlX.out i (by omega); omega)
      rw [hfull.out] at hA
      have hlen : n' = (flatK l).length := hA.out.2.2.1.symm
      by_cases h0 : n' = 0
      · subst h0
        have hnil : Hid (flatK l = []) := Lib.hid (List.eq_nil_of_length_eq_zero hlen.symm)
        clear hlen
        have hk0 : 0 < k := by
          rcases Nat.eq_zero_or_pos k with e | e
          · exfalso
            have h1 := hn.out
            rw [e] at h1
            have h2 := hlg.out
            rw [List.eq_nil_of_length_eq_zero h1] at h2
            cases h2
          · exact e
        obtain ⟨x, hx⟩ : ∃ x, l[0]? = some x := ⟨_, List.getElem?_eq_getElem (by rw [hn.out]; exact hk0)⟩
        obtain ⟨hxt, hxn⟩ : x.ty = none ∧ x.nn = 0 := by
          cases hl : l with
          | nil => rw [hl] at hx; cases hx
          | cons y r =>
            rw [hl] at hx
            injection hx with hx
            subst hx
            exact flat_nil_first (r := r) (by rw [← hl]; exact hnil.out)
        obtain ⟨r, hr, hsg, hrk⟩ := has_of_rmk (W := W0) hR0.out 0 x hx
        have hgn : Hid (¬ Wrt M rs0 los his k g) := Lib.hid (fun q => by
          have hgM := Seg.lt (show Seg W0 g (0 * 6) (r.tv :: r.cells.tail) from hsg)
          rcases q with q | ⟨i, q1, q2, q3, -⟩
          · have := hM.out; omega
          · have := hR0.out.2.2.2.2.2.2 i (by omega) g (by obtain ⟨g', c', e, -⟩ := own_some hR0.out.1 (by omega); simp [Ob, Value.ownBlock]); omega)
        have hsg' := hsg.keep (Kc.of_kp hK.out (fun _ _ q => q)) hgn.out
        obtain ⟨rcb, hrT, hrN, ls, ms, h4, h5, -, -, -, -, h10, -⟩ := hrk
        have hsvk : svs rs0 0 = r.sv := by unfold svs; rw [hr]; rfl
        have h4' := hK.out.own h4 (fun b q e => by
          have e1 := h5 b q
          have e2 := hlX.out 0 hk0
          rcases e with e | ⟨i, q1, q2, q3, q4⟩
          · have := hXM.out; omega
          · by_cases hi : i = 0
            · subst hi; rw [hsvk] at q4; exact q4 q
            · have := hR0.out.2.2.2.2.2.1 0 i (by omega) q1; omega)
        obtain ⟨tv, sv, nv, cb⟩ := r
        simp only at rcb hrT hrN h4' hsg'
        rw [hxt] at hrT
        rw [hxn] at hrN
        obtain rfl : tv = .pointer none := hrT
        obtain ⟨na, nc, rfl, -⟩ := hrN
        obtain ⟨ra, rc, hsv⟩ := own_head h4'
        obtain ⟨m, hm⟩ : ∃ y, ls.length = y := ⟨_, rfl⟩
        rw [hm] at hsv h4'
        subst hsv
        have hm2 : m ≤ 1048576 := by have h1 := hks.out x (List.mem_of_getElem? hx); rw [← h10, List.length_map, hm] at h1; exact h1
        have C30 := Lib.hid (range30_c ra na m rc nc cb false hm2 Wr (fun j hj => by
          obtain ⟨s, hs⟩ : ∃ s, ls[j]? = some s := ⟨_, List.getElem?_eq_getElem (by omega)⟩
          obtain ⟨gr, cr, er, -⟩ := own_some h4' (by omega)
          injection er with er
          subst er
          exact ⟨gr, s.t, s.p, rfl, own_seg h4' (fun i v hi => by
            have hj6 : i < 3 := by have := (List.getElem?_eq_some_iff.1 hi).1; simpa using this
            rw [flat_at SubR.cells 3 (fun _ => rfl) ls j i s hs hj6]
            exact hi)⟩))
        obtain ⟨x0, x1, x2, x3, x4, x5⟩ := segs6 (show Seg Wr g (0 * 6) [.pointer none, .slice ra m rc, .slice na 0 nc, .int .i32 0, .int .u8 cb, .bool false] from hsg')
        simp only [Nat.zero_mul, Nat.zero_add] at x0 x1 x2 x3 x4 x5
        replace hx := Lib.hid hx; replace hr := Lib.hid hr; replace h4' := Lib.hid h4'; replace h10 := Lib.hid h10; replace hm := Lib.hid hm
        clear hsg hsg' h4 h5 hsvk hxt hxn rcb
        have hfl := fun l W => fld109 l W
        go_upto_region 35 with first | (go_at_call 30; (with_reducible refine C30.out.mono ?_); rintro e w9 ⟨⟨l9, rfl⟩, b9⟩; replace b9 := Lib.hid b9) | (at_builtin; go_loud (refine app1g (W := (w9.alloc (.cells #[.int .i32 0] 84)).alloc (.cells #[.pointer none, .slice none 0 0, .slice (some ⟨w9.heap.size, 0, none⟩) 1 1, .int .i32 0, .int .u8 0, .bool true] 102)) (.tmp 138) (.tmp 147) 30 102 M 6 72 #[.pointer none, .slice none 0 0, .slice none 0 0, .int .i32 0, .int .u8 0, .bool false] _ (w9.heap.size + 1) _ 0 _ rfl rfl rfl rfl (newN _ _ _ _) Try.underlying30 info102 rfl (by omega) (own_below (own_below (own_below hA.out.1 b9.out) (ba _ _)) (ba _ _)) rfl (arr6_one rfl rfl rfl rfl rfl rfl) (by omega) (by omega) (by have := b9.out.size; simp; omega) ?_); intro v11 w11 hO8 hkp hnew; obtain ⟨g8, c8, hu, -⟩ := own_some hO8 (by omega); subst hu; replace hO8 := Lib.hid hO8; replace hkp := Lib.hid hkp; replace hnew := Lib.hid hnew)
        have hvM : Hid (∀ b, Ob (.slice va 0 vc) b → M ≤ b) := Lib.hid (fun b q => (hA.out.1.lt b q).1)
        have hkW : Hid (Kp (Ob (.slice va 0 vc)) Wr w11) := Lib.hid ((((Kp.of b9.out).trans (Kp.of (ba _ _))).trans (Kp.of (ba _ _))).trans hkp.out)
        have hpv : Hid (¬ Ob (.slice va 0 vc) pb) := Lib.hid (fun q => by have := hvM.out pb q; have := hpX.out; have := hXM.out; omega)
        have hXv : Hid (¬ Ob (.slice va 0 vc) X) := Lib.hid (fun q => by have := hvM.out X q; have := hXM.out; omega)
        have p11 := hkW.out.cell hpNr.out hpv.out
        have pf11 := hkW.out.froz hpNr.out hpFr.out hpv.out
        have e6 := Lib.hid (hkW.out.cell e5 hXv.out)
        have f6 := Lib.hid (hkW.out.froz e5 hXf.out hXv.out)
        have hg8 : Hid (M ≤ g8) := Lib.hid ((hO8.out.lt g8 rfl).1)
        have hS8 : Hid (Seg w11 g8 0 [.pointer none, .slice none 0 0, .slice (some ⟨w9.heap.size, 0, none⟩) 1 1, .int .i32 0, .int .u8 0, .bool true]) := Lib.hid (own_seg hO8.out (fun j v hj => by
          have h0 : rs = [] := List.eq_nil_of_length_eq_zero hA.out.2.1
          rw [h0]
          simpa [flat] using hj))
        clear e5 x0 x1 x2 x3 x4 x5 hfl
        go_upto_region 36 with fail
        refine wp_gen (fun W12 hW => ?_)
        have hk12 : Hid (Kp (fun b => b = pb) w11 W12) := Lib.hid (by rw [hW]; exact (Kp.refl _).set _ _ (.inl rfl))
        have p12 : Hid (W12.cell? ⟨pb, 53, none⟩ = some (.bool true)) := Lib.hid (by rw [hW]; exact cs p11)
        clear hW p11 pf11
        have e5 := hk12.out.cell e6.out (by show ¬ X = pb; have := hpX.out; omega)
        have f5 := hk12.out.froz e6.out f6.out (by show ¬ X = pb; have := hpX.out; omega)
        go_upto_region 37 with fail
        refine wp_gen (fun W4 hW => ?_)
        have hkX : Hid (Kp (fun b => b = X) W12 W4) := Lib.hid (by rw [hW]; exact (Kp.refl _).set _ _ (.inl rfl))
        have e6 : W4.cell? ⟨X, 0, none⟩ = some (.slice (some ⟨g8, 0, none⟩) 1 c8) := by rw [hW]; exact sset e5
        clear hW
        have hE4 : Hid (ObsE W4 (.slice (some ⟨g8, 0, none⟩) 1 c8)) := Lib.hid ⟨g8, c8, 1, _, rfl, (hS8.out.keep (Kc.of_kp hk12.out (fun _ _ q => q)) (by show ¬ g8 = pb; have := hg8.out; have := hXM.out; have := hpX.out; omega)).keep (Kc.of_kp hkX.out (fun _ _ q => q)) (by show ¬ g8 = X; have := hg8.out; have := hXM.out; omega)⟩
        have hp4 := Lib.hid (hkX.out.cell p12.out (by show ¬ pb = X; have := hpX.out; omega))
        go_wp2_with (at_builtin; go_loud (refine app1n (w := W4) (.tmp 154) (.tmp 156) 28 32 0 1 24 #[.slice none 0 0] #[.slice (some ⟨g8, 0, none⟩) 1 c8] _ 0 [] rfl rfl rfl rfl rfl Try.underlying28 info32 rfl (by omega) (World.ownsRow_nil _ _ _ _) rfl (by simp [Value.oneCell']) (by omega) (by omega) (by omega) ?_); intro v2 w8 hO9 hkp9 hnew9; obtain ⟨g9, c9, hu, -⟩ := own_some hO9 (by omega); subst hu; replace hO9 := Lib.hid hO9; replace hkp9 := Lib.hid hkp9; replace hnew9 := Lib.hid hnew9)
        have b8 : Hid (Below W4.heap.size W4 w8) := Lib.hid (hkp9.out.below (Nat.le_refl _) (fun b q => absurd q ob_nil))
        have hc8 : w8.cell? ⟨g9, 0, none⟩ = some (.slice (some ⟨g8, 0, none⟩) 1 c8) := by
          have := own_seg (o := 0) (vs := [.slice (some ⟨g8, 0, none⟩) 1 c8]) hO9.out (fun j v hj => by simpa using hj)
          simpa using this 0 _ rfl
        have hBe : Hid (Below base w w8) := Lib.hid (by
          have q1 := hXM.out
          have q2 := hpX.out
          have q3 := hkW.out.size
          have q4 := hk12.out.size
          have q5 := hkX.out.size
          exact hBr.out.trans ((hkW.out.below (by omega) (fun b q => by have := hvM.out b q; omega)).trans ((hk12.out.below (by omega) (fun b q => by have q : b = pb := q; omega)).trans ((hkX.out.below (by omega) (fun b q => by have q : b = X := q; omega)).trans (b8.out.mono (by omega))))))
        have hF := Lib.hid (⟨g9, c9, _, rfl, hc8, .inl ⟨hnil.out, hE4.out.after b8.out, ac b8.out hp4.out⟩, hBe.out⟩ : FlP l pb 53 base w (.returned (.slice (some ⟨g9, 0, none⟩) 1 c9)) w8)
        exact bodyPost_ret (v := .slice (some ⟨g9, 0, none⟩) 1 c9) (by simp [results, Try.results17, go_sem]) rfl hF.out
      · have hq : ((n' : Int) == 0) = false := by simp; omega
        have hnil : Hid (flatK l ≠ []) := Lib.hid (fun e => h0 (by rw [hlen, e]; rfl))
        replace hlen := Lib.hid hlen
        have f5 := hXf.out
        go_upto_region 37 with fail
        refine wp_gen (fun W4 hW => ?_)
        have hkX : Hid (Kp (fun b => b = X) Wr W4) := Lib.hid (by rw [hW]; exact (Kp.refl Wr).set _ _ (.inl rfl))
        have e6 : W4.cell? ⟨X, 0, none⟩ = some (.slice va n' vc) := by rw [hW]; exact sset e5
        clear hW
        have hA4 := Lib.hid ((hA.out.keep hkX.out (fun b _ q => .inl q) (fun _ _ q => q)).obs)
        have hp4 := Lib.hid (hkX.out.cell hpNr.out (by show ¬ pb = X; have := hpX.out; omega))
        go_wp2_with (at_builtin; go_loud (refine app1n (w := W4) (.tmp 154) (.tmp 156) 28 32 0 1 24 #[.slice none 0 0] #[.slice va n' vc] _ 0 [] rfl rfl rfl rfl rfl Try.underlying28 info32 rfl (by omega) (World.ownsRow_nil _ _ _ _) rfl (by simp [Value.oneCell']) (by omega) (by omega) (by omega) ?_); intro v2 w8 hO8 hkp hnew; obtain ⟨g8, c8, hu, -⟩ := own_some hO8 (by omega); subst hu; replace hO8 := Lib.hid hO8; replace hkp := Lib.hid hkp; replace hnew := Lib.hid hnew)
        have b8 : Hid (Below W4.heap.size W4 w8) := Lib.hid (hkp.out.below (Nat.le_refl _) (fun b q => absurd q ob_nil))
        have hc8 : w8.cell? ⟨g8, 0, none⟩ = some (.slice va n' vc) := by
          have := own_seg (o := 0) (vs := [.slice va n' vc]) hO8.out (fun j v hj => by simpa using hj)
          simpa using this 0 _ rfl
        have hBe : Hid (Below base w w8) := Lib.hid (by
          have q1 := hXM.out
          have q2 := hpX.out
          have q5 := hkX.out.size
          exact hBr.out.trans ((hkX.out.below (by omega) (fun b q => by have q : b = X := q; omega)).trans (b8.out.mono (by omega))))
        have hF := Lib.hid (⟨g8, c8, _, rfl, hc8, .inr ⟨hnil.out, hA4.out.after b8.out, ac b8.out hp4.out⟩, hBe.out⟩ : FlP l pb 53 base w (.returned (.slice (some ⟨g8, 0, none⟩) 1 c8)) w8)
        exact bodyPost_ret (v := .slice (some ⟨g8, 0, none⟩) 1 c8) (by simp [results, Try.results17, go_sem]) rfl hF.out
end Go.Proofs.Ytjigljpodkfchad
