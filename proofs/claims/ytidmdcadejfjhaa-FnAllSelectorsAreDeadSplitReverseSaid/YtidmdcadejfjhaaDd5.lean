/- containsDeadSelectors, allSelectorsAreDead. -/
import Derived.Test.YtidmdcadejfjhaaDd4
set_option linter.unusedVariables false
set_option linter.unusedSimpArgs false
namespace Go.Proofs.Ytidmdcadejfjhaa
open Go.RowKit
set_option maxRecDepth 100000
set_option maxHeartbeats 4000000
theorem flat_n {T : Type} {f : T → List Value} {z : Nat} (hz : ∀ x, (f x).length = z) (h0 : 0 < z) {w : World} {B : Nat} {e : TypeId} {v : Value} {n : Nat} {l : List T} (h : w.ownsRow B e z v n (flat f l)) : l.length = n := by
  have hl := h.1
  rw [flat_len f z hz] at hl
  exact Nat.eq_of_mul_eq_mul_right h0 hl
theorem GSub.below {w w' : World} {s : SubR} (h : GSub w s) (hb : Below w.heap.size w w') : GSub w' s := h.kt (KT.of (e := 3) hb) (by decide)
theorem GCp.below {w w' : World} {s : CpR} (h : GCp w s) (hb : Below w.heap.size w w') : GCp w' s := h.kt (KT.of (e := 3) hb) (by decide) (by decide)
theorem GCx.below {w w' : World} {s : CxR} (h : GCx w s) (hb : Below w.heap.size w w') : GCx w' s := h.kt (KT.of (e := 3) hb) (by decide) (by decide) (by decide)
theorem any_take_succ {T : Type} (f : T → Bool) (l : List T) (k : Nat) (x : T) (h : l[k]? = some x) : (l.take (k + 1)).any f = ((l.take k).any f || f x) := by
  rw [List.take_add_one, h]; simp
theorem any_of_get {T : Type} (f : T → Bool) (l : List T) (k : Nat) (x : T) (h : l[k]? = some x) (hx : f x = true) : l.any f = true := List.any_eq_true.2 ⟨x, List.mem_of_getElem? h, hx⟩
def RetB (b : Bool) (w : World) (e : Ending) (w' : World) : Prop := e = .returned (.bool b) ∧ Below w.heap.size w w'
def LD (w : World) (n : Nat) (ls : List CpR) (i : Value) (wr : World) : Prop := ∃ k : Nat, k ≤ n ∧ i = .int .i64 k ∧ (ls.take k).any CpR.dead = false ∧ Below w.heap.size w wr
def LE' (w : World) (n : Nat) (ls : List SubR) (i : Value) (wr : World) : Prop := ∃ k : Nat, k ≤ n ∧ i = .int .i64 k ∧ (ls.take k).any SubR.d = false ∧ Below w.heap.size w wr
theorem ta97 (p : Value) (W : World) : (Instr.typeAssert (.iface 97 p) 91 97 true).run Try.prog W = .ok (.tuple #[p, .bool true]) W := by kernel_rfl
theorem ta106 (p : Value) (W : World) : (Instr.typeAssert (.iface 106 p) 91 97 true).run Try.prog W = .ok (.tuple #[.pointer none, .bool false]) W := by kernel_rfl
theorem dead19_c (r : CxR) (w : World) (h : GCx w r) : Calls Try.prog 19 #[.slice r.a r.n r.c] w (RetB r.dead w) := by
  have hln := flat_n CpR.len (by omega) h.1
  obtain ⟨a0, c0, he0, hnc, hcm⟩ := own_shape h.1
  simp only [Value.slice.injEq] at he0
  obtain ⟨-, -, hcc⟩ := he0
  subst hcc
  unfold maxLen at hcm
  obtain ⟨ra, rn, rc, ls⟩ := r
  simp only at hln hnc hcm h ⊢
  replace h := Lib.hid h
  clear a0
  replace hln := Lib.hid hln
  go_enter Try.func19, Try.ntmps19
  go_wp2_with fail
  go_loopw [11] (fun i wr => LD w rn ls i wr) (fun i _ => rn - (intOf i).toNat)
  case atStart => exact ⟨0, by omega, rfl, by simp, Below.refl _ _⟩
  case round =>
    obtain ⟨k, hk, rfl, hd, hB⟩ := hrel
    obtain ⟨Wo, hWo⟩ : ∃ Wo, Wo = wr := ⟨_, rfl⟩
    subst hWo
    have hX := Lib.hid (h.out.below hB)
    replace hB := Lib.hid hB; replace hd := Lib.hid hd
    by_cases hlt : k < rn
    · obtain ⟨cp, hcp⟩ : ∃ cp, ls[k]? = some cp := ⟨_, List.getElem?_eq_getElem (by rw [hln.out]; exact hlt)⟩
      have hGc := hX.out.2 cp (List.mem_of_getElem? hcp)
      obtain ⟨g, c2, he, -, -, -, -⟩ := own_some hX.out.1 (show 0 < rn by omega)
      simp only [Value.slice.injEq] at he
      obtain ⟨hra, -, hrc⟩ := he
      subst hra hrc
      have CL : ∀ j u, (CpR.cells cp)[j]? = some u → Wo.cell? ⟨g, k * 6 + j, none⟩ = some u := fun j u hj => own_at CpR.len hX.out.1 hcp hj
      have e0 := CL 0 _ rfl; have e1 := CL 1 _ rfl; have e2 := CL 2 _ rfl; have e3 := CL 3 _ rfl; have e4 := CL 4 _ rfl; have e5 := CL 5 _ rfl
      simp only [Nat.add_zero] at e0
      have i0 : (0 : Int) ≤ k := by omega
      have i1 : (k : Int) < rn := by omega
      have hlm := flat_n SubR.len (by omega) hGc.1
      obtain ⟨_, _, he0, hnc2, hcm2⟩ := own_shape hGc.1
      simp only [Value.slice.injEq] at he0
      obtain ⟨-, -, hcc⟩ := he0
      subst hcc
      unfold maxLen at hcm2
      obtain ⟨ca, cn, cc, ss⟩ := cp
      simp only at hlm hnc2 hcm2 hGc e1
      clear CL
      replace hGc := Lib.hid hGc; replace hlm := Lib.hid hlm; replace hcp := Lib.hid hcp
      clear hX
      go_upto_region 4 with fail
      clear e0 e1 e2 e3 e4 e5
      refine wp_gen (fun W hW => ?_)
      have hV : Hid (W.ownsRow Wo.heap.size 84 6 (.slice (some ⟨Wo.heap.size, 0, none⟩) 1 1) 1 (CpR.cells ⟨ca, cn, cc, ss⟩)) := Lib.hid (by rw [hW]; exact World.ownsRow_lit _ (CpR.arr ⟨ca, cn, cc, ss⟩) 1 (Nat.le_refl _) (by decide) rfl)
      have hbW : Below Wo.heap.size Wo W := by rw [hW]; exact ba _ _
      clear hW
      replace hGc := Lib.hid (hGc.out.below hbW); replace hB := Lib.hid (hB.out.trans (hbW.mono hB.out.size))
      clear hbW
      have e1 := hV.out.cellAt 1 (by omega)
      simp only [CpR.cells, CpR.arr, List.getElem?_cons_succ, List.getElem?_cons_zero] at e1
      generalize Wo.heap.size = PV at *
      go_wp2_with fail
      clear e1 hV
      go_loopw [18] (fun i wr => LE' W cn ss i wr) (fun i _ => cn - (intOf i).toNat)
      case atStart => exact ⟨0, by omega, rfl, by simp, Below.refl _ _⟩
      case round =>
        obtain ⟨m, hm, rfl, hd2, hB2⟩ := hrel
        obtain ⟨Wi, hWi⟩ : ∃ Wi, Wi = wr := ⟨_, rfl⟩
        subst hWi
        have hY := Lib.hid (hGc.out.below hB2)
        have hBi := Lib.hid (hB.out.trans (hB2.mono hB.out.size))
        replace hB2 := Lib.hid hB2; replace hd2 := Lib.hid hd2
        by_cases hmlt : m < cn
        · obtain ⟨s, hs⟩ : ∃ s, ss[m]? = some s := ⟨_, List.getElem?_eq_getElem (by rw [hlm.out]; exact hmlt)⟩
          have hGs := hY.out.2 s (List.mem_of_getElem? hs)
          obtain ⟨g2, c3, he, -, -, -, -⟩ := own_some hY.out.1 (show 0 < cn by omega)
          simp only [Value.slice.injEq] at he
          obtain ⟨hra, -, hrc⟩ := he
          subst hra hrc
          have CL : ∀ j u, (SubR.cells s)[j]? = some u → Wi.cell? ⟨g2, m * 3 + j, none⟩ = some u := fun j u hj => own_at SubR.len hY.out.1 hs hj
          have e0 := CL 0 _ rfl; have e1 := CL 1 _ rfl; have e2 := CL 2 _ rfl
          simp only [Nat.add_zero] at e0
          have i2 : (0 : Int) ≤ m := by omega
          have i3 : (m : Int) < cn := by omega
          clear CL
          obtain ⟨st, sp, sd⟩ := s
          simp only [SubR.v] at e0
          replace hs := Lib.hid hs
          clear hY
          rcases hGs with ⟨h1, h2⟩ | ⟨B, n, c, a, x, y, q, ⟨h1, h2⟩, h3, h4⟩
          · simp only at h1 h2
            subst h1 h2
            have ta := ta106
            have hnx : Hid ((ss.take (m + 1)).any SubR.d = false) := Lib.hid (by rw [any_take_succ SubR.d ss m _ hs.out, hd2.out]; rfl)
            go_upto_region 7 with fail
            clear e0 e1 e2
            refine wp_gen (fun W2 hW => ?_)
            have hbW : Below Wi.heap.size Wi W2 := by rw [hW]; exact ba _ _
            have e0 : W2.cell? ⟨Wi.heap.size, 0, none⟩ = some (.iface 106 sp) := by rw [hW]; simp [go_sem]
            clear hW
            have hB3 := Lib.hid (hB2.out.trans (hbW.mono hB2.out.size))
            clear hbW
            generalize Wi.heap.size = PS at *
            go_wp2_with fail
            exact ⟨⟨m + 1, by omega, by go_num, hnx.out, hB3.out⟩, by simp [intOf]; omega⟩
          · simp only at h1 h2 h4
            subst h1 h2 h4
            have ta := ta97
            go_upto_region 7 with fail
            clear e0 e1 e2
            refine wp_gen (fun W2 hW => ?_)
            have hbW : Below Wi.heap.size Wi W2 := by rw [hW]; exact ba _ _
            have e0 : W2.cell? ⟨Wi.heap.size, 0, none⟩ = some (.iface 97 (.pointer (some ⟨B, 0, none⟩))) := by rw [hW]; simp [go_sem]
            have g0 : W2.cell? ⟨B, 0, none⟩ = some (.slice a n c) := ac hbW (cell_of_row Wi B 0 _ 103 (0, 0) h3)
            have g3 : W2.cell? ⟨B, 3, none⟩ = some (.int .u8 q) := ac hbW (cell_of_row Wi B 3 _ 103 (0, 0) h3)
            clear hW h3
            have hB3 := Lib.hid (hB2.out.trans (hbW.mono hB2.out.size))
            have hB4 := Lib.hid (hBi.out.trans (hbW.mono hBi.out.size))
            clear hbW
            generalize Wi.heap.size = PS at *
            by_cases hdb : deadB n q = true
            · have HP : RetB (CxR.dead ⟨some ⟨g, 0, none⟩, rn, rc, ls⟩) w (.returned (.bool true)) W2 := ⟨by
                have h1 : CpR.dead ⟨some ⟨g2, 0, none⟩, cn, cc, ss⟩ = true := any_of_get SubR.d ss m _ hs.out hdb
                have h2 : CxR.dead ⟨some ⟨g, 0, none⟩, rn, rc, ls⟩ = true := any_of_get CpR.dead ls k _ hcp.out h1
                rw [h2], hB4.out⟩
              have hn0 : n = 0 ∧ (q = 2 ∨ q = 9) := by unfold deadB at hdb; simpa using hdb
              replace HP := Lib.hid HP
              obtain ⟨rfl, hq⟩ := hn0
              clear hdb
              rcases hq with rfl | rfl
              · go_wp2_with fail
                go_ret
                exact HP.out
              · go_wp2_with fail
                go_ret
                exact HP.out
            · have hdb' : deadB n q = false := by simpa using hdb
              have hnx : Hid ((ss.take (m + 1)).any SubR.d = false) := Lib.hid (by rw [any_take_succ SubR.d ss m _ hs.out, hd2.out]; exact hdb')
              have RR : ∀ x, x = Value.int .i64 ((m : Int) + 1) → LE' W cn ss x W2 := fun x hx => ⟨m + 1, by omega, by rw [hx]; go_num, hnx.out, hB3.out⟩
              replace RR := Lib.hid RR
              have hnn : n ≠ 0 ∨ (q ≠ 2 ∧ q ≠ 9) := by unfold deadB at hdb; simp at hdb; omega
              clear hdb hdb' hnx hB4
              rcases hnn with hnn | ⟨q2, q9⟩
              · have t0 : ((n : Int) == 0) = false := by simp; omega
                go_wp2_with fail
                exact ⟨RR.out _ rfl, by simp [intOf]; omega⟩
              · have t2 : (q == 2) = false := by simpa using q2
                have t9 : (q == 9) = false := by simpa using q9
                clear q2 q9
                by_cases n0 : n = 0
                · subst n0
                  go_wp2_with fail
                  exact ⟨RR.out _ rfl, by simp [intOf]; omega⟩
                · have t0 : ((n : Int) == 0) = false := by simp; omega
                  go_wp2_with fail
                  exact ⟨RR.out _ rfl, by simp [intOf]; omega⟩
        · obtain rfl : m = cn := by omega
          have hnx : Hid ((ls.take (k + 1)).any CpR.dead = false) := Lib.hid (by
            rw [any_take_succ CpR.dead ls k _ hcp.out, hd.out]
            have := hd2.out; rw [List.take_of_length_le (by rw [hlm.out]; exact Nat.le_refl _)] at this; exact this)
          have RR : ∀ x, x = Value.int .i64 ((k : Int) + 1) → LD w rn ls x Wi := fun x hx => ⟨k + 1, by omega, by rw [hx]; go_num, hnx.out, hBi.out⟩
          replace RR := Lib.hid RR
          go_wp2_with fail
          exact ⟨RR.out _ rfl, by simp [intOf]; omega⟩
    · obtain rfl : k = rn := by omega
      have hdd : (CxR.dead ⟨ra, k, rc, ls⟩) = false := by have := hd.out; rw [List.take_of_length_le (by rw [hln.out]; exact Nat.le_refl _)] at this; exact this
      replace hdd := Lib.hid hdd
      have HP : RetB (CxR.dead ⟨ra, k, rc, ls⟩) w (.returned (.bool false)) Wo := ⟨by rw [hdd.out], hB.out⟩
      go_wp2_with fail
      go_ret
      exact HP
end Go.Proofs.Ytidmdcadejfjhaa
