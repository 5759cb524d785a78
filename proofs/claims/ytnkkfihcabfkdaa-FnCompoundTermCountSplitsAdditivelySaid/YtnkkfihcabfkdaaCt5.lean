/- complexSelectorTermCount; what a subclass selector counts. -/
import Derived.Test.YtnkkfihcabfkdaaCt4
set_option linter.unusedVariables false
set_option linter.unusedSimpArgs false
namespace Go.Proofs.Ytnkkfihcabfkdaa
open Go.RowKit
set_option maxRecDepth 100000
set_option maxHeartbeats 4000000
structure XOK (w : World) (a : Option Addr) (n c : Nat) (ls : List CxR) : Prop where
  own : w.ownsRow 0 41 1 (.slice a n c) n (flat CxR.cells ls)
  h6 : ∀ r ∈ ls, w.ownsRow 0 33 6 (.slice r.a r.n r.c) r.n (flat CpR.cells r.ls)
  h7 : ∀ r ∈ ls, ∀ p ∈ r.ls, w.ownsRow 0 49 3 (.slice p.a p.n p.c) p.n (flat SubR.cells p.ls)
  h8 : ∀ r ∈ ls, ∀ p ∈ r.ls, ∀ s ∈ p.ls, SubOK w s
theorem XOK.below {w w' : World} {a : Option Addr} {n c : Nat} {ls : List CxR} (h : XOK w a n c ls) (hb : Below w.heap.size w w') : XOK w' a n c ls := ⟨own_below h.own hb, fun r hr => own_below (h.h6 r hr) hb, fun r hr p hp => own_below (h.h7 r hr p hp) hb, fun r hr p hp s hs => (h.h8 r hr p hp s hs).below hb⟩
theorem own_cap {w : World} {B : Nat} {e : TypeId} {z : Nat} {a : Option Addr} {n c m : Nat} {xs : List Value} (h : w.ownsRow B e z (.slice a n c) m xs) : n ≤ 9223372036854775807 := by
  obtain ⟨a2, c2, he, h1, h2⟩ := own_shape h
  injection he with _ e2 e3
  unfold maxLen at h2
  omega
theorem cplx13_c (a : Option Addr) (n c : Nat) (ls : List CxR) (w : World) (h : XOK w a n c ls) (hk : cntX ls ≤ 1000000) : Calls Try.prog 13 #[.slice a n c] w (RetN (cntX ls) w) := by
  have hln := Lib.hid (flat_n CxR.len (by omega) h.own)
  have hcap := own_cap h.own
  replace h := Lib.hid h
  have hle := Lib.hid (cntX_le ls)
  go_enter Try.func13, Try.ntmps13
  go_wp2_with fail
  go_loopw [3, 10] (fun x i wr => LK w n (fun m => cntX (ls.take m)) x i wr) (fun _ i _ => n - (intOf i).toNat)
  case atStart => exact ⟨0, by omega, rfl, by simp [cntX], Below.refl _ _⟩
  case round =>
    obtain ⟨k, hkn, rfl, hx, hB⟩ := hrel
    simp only at hx
    subst hx
    obtain ⟨Wo, hWo⟩ : ∃ Wo, Wo = wr := ⟨_, rfl⟩
    subst hWo
    have hX := h.out.below hB
    replace hB := Lib.hid hB
    by_cases hlt : k < n
    · obtain ⟨r, hr⟩ : ∃ r, ls[k]? = some r := ⟨_, List.getElem?_eq_getElem (by rw [hln.out]; exact hlt)⟩
      have hm := List.mem_of_getElem? hr
      obtain ⟨g, c2, he, -, -, -, -⟩ := own_some hX.own (show 0 < n by omega)
      injection he with he1 _ he3
      subst he1 he3
      have e0 : Wo.cell? ⟨g, k, none⟩ = some (.slice r.a r.n r.c) := by have := own_at CxR.len hX.own hr (j := 0) (u := .slice r.a r.n r.c) rfl; simpa using this
      have hst := cntX_take ls k r hr
      have hle1 := hle.out (k + 1)
      obtain ⟨y, hy⟩ : ∃ y, cntX (ls.take k) = y := ⟨_, rfl⟩
      obtain ⟨y', hy'⟩ : ∃ y, cntX (ls.take (k + 1)) = y := ⟨_, rfl⟩
      rw [hy, hy'] at hst
      rw [hy'] at hle1
      rw [hy]
      have i0 : (0 : Int) ≤ k := by omega
      have i1 : (k : Int) < n := by omega
      have RR : ∀ (v : Value) (W2 : World), v = .int .i64 y' → Below w.heap.size w W2 → LK w n (fun m => cntX (ls.take m)) v (.int .i64 ((k : Int) + 1)) W2 := fun v W2 e hb => ⟨k + 1, by omega, by go_num, by rw [e]; simp only [hy'], hb⟩
      replace RR := Lib.hid RR
      have h6 := hX.h6 r hm
      have h7 := Lib.hid (hX.h7 r hm)
      have h8 := Lib.hid (hX.h8 r hm)
      have hlr := Lib.hid (flat_n CpR.len (by omega) h6)
      have hcr := own_cap h6
      replace h6 := Lib.hid h6
      obtain ⟨ra, rn, rc, rl⟩ := r
      simp only at hst e0 h6 h7 h8 hlr hcr
      have hpl := Lib.hid (cntP_le rl)
      clear hy hy' hr hm hX
      go_upto_region 5 with fail
      clear e0
      refine wp_gen (fun W hW => ?_)
      have hbW : Below Wo.heap.size Wo W := by rw [hW]; exact ba _ _
      have e0 : W.cell? ⟨Wo.heap.size, 0, none⟩ = some (.slice ra rn rc) := by rw [hW]; simp [go_sem]
      clear hW
      have hB1 := Lib.hid (hB.out.trans (hbW.mono hB.out.size))
      have g6 := Lib.hid (own_below h6.out hbW); have g7 := Lib.hid (fun p hp => own_below (h7.out p hp) hbW); have g8 := Lib.hid (fun p hp s hs => (h8.out p hp s hs).below hbW)
      clear hbW h6 h7 h8
      generalize Wo.heap.size = PV at *
      go_wp2_with fail
      clear e0
      go_loopw [3, 17] (fun x i wr => LK2 W rn y (fun m => cntP (rl.take m)) x i wr) (fun _ i _ => rn - (intOf i).toNat)
      case atStart => exact ⟨0, y, by omega, rfl, rfl, Lib.hid (by simp [cntP]), Below.refl _ _⟩
      case round =>
        obtain ⟨m, z, hmn, rfl, rfl, hz, hB2⟩ := hrel
        obtain ⟨Wi, hWi⟩ : ∃ Wi, Wi = wr := ⟨_, rfl⟩
        subst hWi
        have hBi := Lib.hid (hB1.out.trans (hB2.mono hB1.out.size))
        by_cases hmlt : m < rn
        · obtain ⟨p, hp⟩ : ∃ p, rl[m]? = some p := ⟨_, List.getElem?_eq_getElem (by rw [hlr.out]; exact hmlt)⟩
          have hpm := List.mem_of_getElem? hp
          have q6 := own_below g6.out hB2
          obtain ⟨g2, c3, he, -, -, -, -⟩ := own_some q6 (show 0 < rn by omega)
          injection he with he1 _ he3
          subst he1 he3
          have CL : ∀ j u, (CpR.cells p)[j]? = some u → Wi.cell? ⟨g2, m * 6 + j, none⟩ = some u := fun j u hj => own_at CpR.len q6 hp hj
          have e0 := CL 0 _ rfl; have e1 := CL 1 _ rfl; have e2 := CL 2 _ rfl; have e3 := CL 3 _ rfl; have e4 := CL 4 _ rfl; have e5 := CL 5 _ rfl
          simp only [Nat.add_zero] at e0
          have hst2 := cntP_take rl m p hp
          have hle2 := hpl.out (m + 1)
          have hq : z = y + cntP (rl.take m) := hz.out
          obtain ⟨t, ht⟩ : ∃ t, cntP (rl.take m) = t := ⟨_, rfl⟩
          obtain ⟨t', ht'⟩ : ∃ t, cntP (rl.take (m + 1)) = t := ⟨_, rfl⟩
          rw [ht, ht'] at hst2
          rw [ht'] at hle2
          rw [ht] at hq
          have hcs : cntS p.ls ≤ 1000000 := by omega
          have hzb : z + cntS p.ls ≤ 1000000 := by omega
          have i2 : (0 : Int) ≤ m := by omega
          have i3 : (m : Int) < rn := by omega
          have RI : ∀ (v : Value) (W2 : World), v = .int .i64 ((z : Int) + cntS p.ls) → Below W.heap.size W W2 → LK2 W rn y (fun m => cntP (rl.take m)) v (.int .i64 ((m : Int) + 1)) W2 := fun v W2 e hb => ⟨m + 1, z + cntS p.ls, by omega, by go_num, by rw [e]; go_num, Lib.hid (by simp only [ht']; omega), hb⟩
          replace RI := Lib.hid RI
          have p7 := own_below (g7.out p hpm) hB2
          have hcp := own_cap p7
          have D : Hid (∀ w', Below Wi.heap.size Wi w' → Calls Try.prog 12 #[.agg (CpR.arr ⟨p.a, p.n, p.c, p.ls⟩)] w' (RetN (cntS p.ls) w')) := Lib.hid (fun w' hb => comp12_c p.a p.n p.c p.ls w' ((RdS.of p7).below hb) (fun s hs => ((g8.out p hpm s hs).below hB2).below hb) hcs (by unfold maxLen; omega))
          replace hB2 := Lib.hid hB2
          obtain ⟨pa, pn, pc, pl⟩ := p
          simp only at e1 D hzb RI
          generalize cntS pl = cs at *
          clear CL q6 p7 ht ht' hp hpm hst2 hle2 hq hcs hz
          go_upto_region 8 with fail
          clear e0 e1 e2 e3 e4 e5
          refine wp_gen (fun W2 hW => ?_)
          have hbW : Below Wi.heap.size Wi W2 := by rw [hW]; exact ba _ _
          have hV : Hid (W2.ownsRow Wi.heap.size 33 6 (.slice (some ⟨Wi.heap.size, 0, none⟩) 1 1) 1 (CpR.cells ⟨pa, pn, pc, pl⟩)) := Lib.hid (by rw [hW]; exact World.ownsRow_lit _ (CpR.arr ⟨pa, pn, pc, pl⟩) 1 (Nat.le_refl _) (by decide) rfl)
          clear hW
          have hB3 := Lib.hid (hB2.out.trans (hbW.mono hB2.out.size))
          replace D := Lib.hid (D.out W2 hbW)
          clear hbW
          have e0 := hV.out.cellAt 0 (by omega); have e1 := hV.out.cellAt 1 (by omega); have e2 := hV.out.cellAt 2 (by omega); have e3 := hV.out.cellAt 3 (by omega); have e4 := hV.out.cellAt 4 (by omega); have e5 := hV.out.cellAt 5 (by omega)
          simp only [CpR.cells, CpR.arr, List.getElem?_cons_succ, List.getElem?_cons_zero] at e0 e1 e2 e3 e4 e5
          generalize Wi.heap.size = PI' at *
          go_wp2_with (go_at_call 12; (with_reducible refine D.out.mono ?_); rintro e w3 ⟨rfl, hb⟩; have hB4 := Lib.hid (hB3.out.trans (hb.mono hB3.out.size)); clear hb)
          exact ⟨RI.out _ _ rfl hB4.out, by simp [intOf]; omega⟩
        · obtain rfl : m = rn := by omega
          have hzz : z = y' := by
            have : z = y + cntP (rl.take m) := hz.out
            rw [List.take_of_length_le (by rw [hlr.out]; exact Nat.le_refl _)] at this
            omega
          replace hzz := Lib.hid hzz
          clear hz hB2
          go_wp2_with fail
          exact ⟨RR.out _ _ (by rw [hzz.out]) hBi.out, by simp [intOf]; omega⟩
    · obtain rfl : k = n := by omega
      have HP : RetN (cntX ls) w (.returned (.int .i64 (cntX (ls.take k)))) Wo := ⟨by rw [List.take_of_length_le (by rw [hln.out]; exact Nat.le_refl _)], hB.out⟩
      replace HP := Lib.hid HP
      go_wp2_with fail
      go_ret
      exact HP.out
theorem G.ok {O : Nat → Prop} {w : World} {s : SubR} (h : G O w s) : SubOK w s := by
  induction h with
  | leaf s h1 h2 => exact .inl ⟨h1, h2⟩
  | list s B n c a x y q ls h1 h2 h3 h4 h5 h6 h7 h8 h9 ih =>
    have hx : XOK w a n c ls := ⟨h5.1, fun r hr => (h6 r hr).1, fun r hr p hp => (h7 r hr p hp).1, ih⟩
    exact .inr ⟨B, n, c, a, x, y, q, cntX ls, h1, h2, h4, h9, fun hk w' hb => cplx13_c a n c ls w' (hx.below hb) hk⟩
end Go.Proofs.Ytnkkfihcabfkdaa
