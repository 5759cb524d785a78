/- zzBuildComplexes, containsDeadSelectors, allSelectorsAreDead. -/
import Derived.Test.YtidmdcadejfjhaaDd3
set_option linter.unusedVariables false
set_option linter.unusedSimpArgs false
namespace Go.Proofs.Ytidmdcadejfjhaa
open Go.RowKit
set_option maxRecDepth 100000
set_option maxHeartbeats 4000000
def AllP (w : World) (n : Nat) (e : Ending) (w' : World) : Prop := ∃ (g : Nat) (c : Nat) (ls : List CxR) (d : Bool), e = .returned (.tuple #[.slice (some ⟨g, 0, none⟩) n c, .bool d]) ∧ w'.ownsRow w.heap.size 50 1 (.slice (some ⟨g, 0, none⟩) n c) n (flat CxR.cells ls) ∧ (∀ s ∈ ls, GCx w' s) ∧ Below w.heap.size w w'
def LA (w : World) (n : Nat) (sels all p j c : Value) (wr : World) : Prop := ∃ (k : Nat) (p' j' : Int) (d : Bool) (ls : List CxR), k ≤ n ∧ c = .int .i64 k ∧ p = .int .i64 p' ∧ j = .int .i64 j' ∧ all = .bool d ∧ (∃ g c, sels = .slice (some ⟨g, 0, none⟩) k c) ∧ wr.ownsRow w.heap.size 50 1 sels k (flat CxR.cells ls) ∧ (∀ s ∈ ls, GCx wr s) ∧ Below w.heap.size w wr
theorem all12_c (A0 A1 A2 A3 : Option Addr) (n0 n1 n2 n3 c0 c1 c2 c3 : Nat) (f0 f1 f2 f3 : Nat → Int) (w : World) (h0 : Byt w A0 n0 f0) (h1 : Byt w A1 n1 f1) (h2 : Byt w A2 n2 f2) (h3 : Byt w A3 n3 f3) (hn : n0 ≤ 65536) :
    Calls Try.prog 12 #[.slice A0 n0 c0, .slice A1 n1 c1, .slice A2 n2 c2, .slice A3 n3 c3] w (AllP w n0) := by
  have C14 := Lib.hid (fun c p j w' (hb : Below w.heap.size w w') => cplx14_c A0 A1 A2 A3 n0 n1 n2 n3 c0 c1 c2 c3 f0 f1 f2 f3 c p j (.slice none 0 0) 0 w w' h0 h1 h2 h3 hb ⟨0, [], by omega, World.ownsRow_nil _ _ _ _⟩ (by omega))
  clear h0 h1 h2 h3
  have mk := make0_z (P := Try.prog) #[.slice none 0 0] Try.underlying44 info50 n0 (by omega) (by omega)
  simp only [Nat.mul_one] at mk
  go_enter Try.func12, Try.ntmps12
  go_upto_region 2 with fail
  clear mk
  refine wp_gen (fun W hW => ?_)
  have hB : Hid (Below w.heap.size w W) := Lib.hid (by rw [hW]; exact ba _ _)
  have hO : Hid (W.ownsRow w.heap.size 50 1 (.slice (some ⟨w.heap.size, 0, none⟩) 0 n0) 0 (flat CxR.cells [])) := Lib.hid (by rw [hW]; exact World.ownsRow_made _ _ _ (by omega) (by unfold maxLen; omega) (by rw [size_madeCells]; omega))
  clear hW
  go_wp2_with fail
  go_loopw [10, 11, 12, 13, 14] (fun sels all p j c wr => LA w n0 sels all p j c wr) (fun _ _ _ _ c _ => n0 - (intOf c).toNat)
  case atStart => exact ⟨0, 0, 0, true, [], by omega, rfl, rfl, rfl, rfl, ⟨_, _, rfl⟩, hO.out, (fun s h => by simp at h), hB.out⟩
  case round =>
    clear hO hB
    obtain ⟨k, p', j', d, ls, hkN, rfl, rfl, rfl, rfl, hsh, hO, hG, hB⟩ := hrel
    replace hsh := Lib.hid hsh
    obtain ⟨Wo, hWo⟩ : ∃ Wo, Wo = wr := ⟨_, rfl⟩
    subst hWo
    replace hO := Lib.hid hO; replace hG := Lib.hid hG; replace hB := Lib.hid hB
    by_cases hlt : k < n0
    · go_upto_region 9 with fail
      refine wp_gen (fun Wa hW => ?_)
      have hbW : Below Wo.heap.size Wo Wa := by rw [hW]; exact ba _ _
      have hV : Hid (Wa.ownsRow Wo.heap.size 50 1 (.slice (some ⟨Wo.heap.size, 0, none⟩) 1 1) 1 [.slice none 0 0]) := Lib.hid (by rw [hW]; exact World.ownsRow_lit _ #[.slice none 0 0] 1 (Nat.le_refl _) (by decide) rfl)
      clear hW
      have hOa := Lib.hid (own_below hO.out hbW); have hGa := Lib.hid (fun s hs => (hG.out s hs).kt (KT.of (e := 50) hbW) (by decide) (by decide) (by decide)); have hBa := Lib.hid (hB.out.trans (hbW.mono hB.out.size))
      have hcl := Lib.hid (fun b (e : u10.ownBlock = some b) => (hO.out.lt b e).2)
      have hwo := hB.out.size
      clear hbW hO hG hB
      generalize Wo.heap.size = PV at *
      go_upto_region 11 with (go_at_call 14; (with_reducible refine (C14.out _ p' j' _ hBa.out).mono ?_); rintro e w1 ⟨r, c2', p2, j2, d2, key2, rfl, hr, hK2, hkt, hB2⟩; have hV2 := Lib.hid (hkt.own hV.out (by decide)); have hO2 := Lib.hid (hkt.own hOa.out (by decide)); have hG2 := Lib.hid (fun s hs => (hGa.out s hs).kt hkt (by decide) (by decide) (by decide)); replace hr := Lib.hid hr; replace hB2 := Lib.hid hB2; replace hkt := Lib.hid hkt; clear hK2; have g0 := hV2.out.cellAt 0 (by omega); have f0' := hV2.out.frozenAt 0; simp only [List.getElem?_cons_zero] at g0)
      have hst := hV2.out.stored 0 (.slice r.a r.n r.c)
      clear g0 f0'
      refine wp_gen (fun W3 hW => ?_)
      rw [← hW] at hst
      clear hW
      have hst2 : Kp (fun b => b = PV) w1 W3 := (Kp.grown hst.2).wide (fun b e => by simpa using e.symm)
      have hkt3 : KT 50 w1 W3 := hst2.wide (fun b e => by subst e; exact Ty.of hV2.out _ rfl)
      have hV3 := Lib.hid hst.1
      have hO3 := Lib.hid (hst2.own hO2.out (fun b e h => by have := hcl.out b e; omega))
      have hG3 := Lib.hid (fun s hs => (hG2.out s hs).kt hkt3 (by decide) (by decide) (by decide))
      have hr3 := Lib.hid (hr.out.kt hkt3 (by decide) (by decide) (by decide))
      have hB3 := Lib.hid (hB2.out.trans (hst2.below hB2.out.size (fun b e => by omega)))
      clear hst hst2 hkt3 hV2 hO2 hG2 hr hB2 hkt hOa hGa hBa hV
      have e0 := hV3.out.cellAt 0 (by omega)
      simp only [List.set_cons_zero, List.getElem?_cons_zero] at e0
      cases d2
      all_goals
        go_wp2_with (at_builtin; go_loud (refine app1n (w := W3) (.tmp 43) (.tmp 45) 44 50 w.heap.size 1 24 #[.slice none 0 0] r.arr _ k _ rfl rfl rfl rfl rfl Try.underlying44 info50 rfl (by omega) hO3.out rfl (CxR.one r) (by omega) (by omega) hB3.out.size ?_); intro sels2 W5 hO5 hkp hnew; replace hkp := Lib.hid hkp; replace hO5 := Lib.hid hO5; clear hnew)
        have hkt := KT.app hO3.out hkp.out
        have RR : ∀ d', LA w n0 sels2 (.bool d') (.int .i64 p2) (.int .i64 j2) (.int .i64 ((k : Int) + 1)) W5 := fun d' => ⟨k + 1, _, _, d', ls ++ [r], by omega, by go_num, rfl, rfl, rfl, (by obtain ⟨g, c, e, -⟩ := own_some hO5.out (by omega); exact ⟨g, c, e⟩), by rw [← flat_add]; exact hO5.out, fun x hx => by
          rcases List.mem_append.1 hx with hx | hx
          · exact (hG3.out x hx).kt hkt (by decide) (by decide) (by decide)
          · rw [List.mem_singleton] at hx; subst hx; exact hr3.out.kt hkt (by decide) (by decide) (by decide), hB3.out.trans (hkp.out.below hB3.out.size (fun b e => by have := (hO3.out.lt b e).1; omega))⟩
        exact ⟨RR _, by simp [intOf]; omega⟩
    · obtain rfl : k = n0 := by omega
      obtain ⟨g, c', hu⟩ := hsh.out
      subst hu
      go_wp2_with fail
      go_ret2
      exact ⟨_, _, _, _, rfl, hO.out, hG.out, hB.out⟩
end Go.Proofs.Ytidmdcadejfjhaa
