/- FnIsSafeSelectorsConcat: zzGroupsBytes. -/
import Derived.Test.YtacalmdjkgbhlaaDoorIs1
import Derived.Test.YtacalmdjkgbhlaaDoorST
set_option linter.unusedVariables false
set_option linter.unusedSimpArgs false
namespace Go.Proofs.YtacalmdjkgbhlaaDoor
open Go.RowKit
/-- a sum, whatever it is -/
def SomeZ (w : World) (e : Ending) (w' : World) : Prop := (∃ z, e = .returned (.int .i64 z)) ∧ Below w.heap.size w w'
def LpZ (w : World) (n : Nat) (u v : Value) (wr : World) : Prop := ∃ (i : Nat) (z : Int), i ≤ n ∧ u = .int .i64 z ∧ v = .int .i64 i ∧ Below w.heap.size w wr
set_option maxRecDepth 100000 in
set_option maxHeartbeats 4000000 in
theorem bytes5_c (gs : List (List Cq)) (a : Option Addr) (cc : Nat) (O : Nat → Prop) (w : World) (h : RG O w a gs) (hn : gs.length ≤ maxLen) : Calls Tryd.prog 5 #[.slice a gs.length cc] w (SomeZ w) := by
  have hM : maxLen = 9223372036854775807 := by decide
  have H := Lib.hid h
  rw [hM] at hn
  obtain ⟨n, hnn⟩ : ∃ n, gs.length = n := ⟨_, rfl⟩
  rw [hnn] at hn ⊢
  replace hnn := Lib.hid hnn
  clear h
  go_enter Tryd.func5, Tryd.ntmps5
  go_wp2
  go_loopw [3, 4] (fun u v wr => LpZ w n u v wr) (fun _ v _ => n - (intOf v).toNat)
  case atStart => exact ⟨0, _, by omega, rfl, rfl, Below.refl _ _⟩
  case round =>
    obtain ⟨i, z, hi, rfl, rfl, hB⟩ := hrel
    obtain ⟨w1, rfl⟩ : ∃ w1 : World, w1 = wr := ⟨_, rfl⟩
    replace hB := Lib.hid hB
    by_cases hlt : i < n
    · obtain ⟨g, hg⟩ : ∃ g, gs[i]? = some g := ⟨_, List.getElem?_eq_getElem (by rw [hnn.out]; exact hlt)⟩
      obtain ⟨ab, ao, a', c', rfl, -, hc, -, hRC, hgm⟩ := (H.out.after hB.out) i g hg
      rw [hM] at hgm
      replace hRC := Lib.hid hRC
      have i0 : (0 : Int) ≤ i := by omega
      have i1 : (i : Int) < n := by omega
      obtain ⟨m, hmm⟩ : ∃ m, g.length = m := ⟨_, rfl⟩
      rw [hmm] at hc hgm
      replace hmm := Lib.hid hmm
      clear hg
      go_wp2
      clear hc
      go_loopw [3, 6] (fun u v wr => LpZ w1 m u v wr) (fun _ v _ => m - (intOf v).toNat)
      case atStart => exact ⟨0, _, by omega, rfl, rfl, Below.refl _ _⟩
      case round =>
        obtain ⟨j, z2, hj, rfl, rfl, hB2⟩ := hrel
        obtain ⟨w3, rfl⟩ : ∃ w3 : World, w3 = wr := ⟨_, rfl⟩
        replace hB2 := Lib.hid hB2
        have B3 : Hid (Below w.heap.size w w3) := Lib.hid (hB.out.trans (hB2.out.mono hB.out.size))
        by_cases hltj : j < m
        · obtain ⟨c, hcq⟩ : ∃ c, g[j]? = some c := ⟨_, List.getElem?_eq_getElem (by rw [hmm.out]; exact hltj)⟩
          obtain ⟨gb, go, ca, cz, rfl, -, hs, -, hRS, -, hsm⟩ := (hRC.out.after hB2.out) j c hcq
          rw [hM] at hsm
          have d0 : w3.cell? ⟨gb, go + j * 6, none⟩ = some (.int .u8 c.ne) := by simpa using hs 0 _ rfl
          have d1 : w3.cell? ⟨gb, go + j * 6 + 1, none⟩ = some (.int .u8 c.co) := by simpa using hs 1 _ rfl
          have d2 : w3.cell? ⟨gb, go + j * 6 + 2, none⟩ = some (.int .u8 c.tk) := by simpa using hs 2 _ rfl
          have d3 : w3.cell? ⟨gb, go + j * 6 + 3, none⟩ = some (.bool c.pf) := by simpa using hs 3 _ rfl
          have d4 : w3.cell? ⟨gb, go + j * 6 + 4, none⟩ = some (.string c.tn) := by simpa using hs 4 _ rfl
          have d5 : w3.cell? ⟨gb, go + j * 6 + 5, none⟩ = some (.slice ca c.ss.length cz) := by simpa using hs 5 _ rfl
          have j0 : (0 : Int) ≤ j := by omega
          have j1 : (j : Int) < m := by omega
          obtain ⟨nS, hnS⟩ : ∃ y, c.ss.length = y := ⟨_, rfl⟩
          rw [hnS] at d5 hsm
          replace hnS := Lib.hid hnS
          replace hRS := Lib.hid hRS
          clear hcq hs
          go_upto_region 11 with fail
          refine wp_gen (fun w4 hW => ?_)
          have b4 : Hid (Below w3.heap.size w3 w4) := Lib.hid (by rw [hW]; exact ba _ _)
          have e0 : w4.cell? ⟨w3.heap.size, 0, none⟩ = some (.int .u8 c.ne) := by rw [hW]; simp [go_sem]
          have e4 : w4.cell? ⟨w3.heap.size, 4, none⟩ = some (.string c.tn) := by rw [hW]; simp [go_sem]
          have e5 : w4.cell? ⟨w3.heap.size, 5, none⟩ = some (.slice ca nS cz) := by rw [hW]; simp [go_sem]
          clear hW d0 d1 d2 d3 d4 d5
          have B4 : Hid (Below w.heap.size w w4) := Lib.hid (B3.out.trans (b4.out.mono B3.out.size))
          have B14 : Hid (Below w1.heap.size w1 w4) := Lib.hid (hB2.out.trans (b4.out.mono hB2.out.size))
          have hRS4 := Lib.hid (hRS.out.after b4.out)
          clear b4 hB2 B3 hRS
          generalize w3.heap.size = P7 at *
          go_upto_if 49 with fail
          go_cut [3] (fun u wx => (∃ z, u = .int .i64 z) ∧ w4 = wx)
          case first =>
            cases h0 : c.ne == 0
            · have h1 : (c.ne != 0) = true := by rw [bne, h0]; rfl
              go_wp2
              go_meet
              exact ⟨⟨_, rfl⟩, rfl⟩
            · have h1 : (c.ne != 0) = false := by rw [bne, h0]; rfl
              go_wp2
              go_meet
              exact ⟨⟨_, rfl⟩, rfl⟩
          case rest =>
            obtain ⟨⟨z3, rfl⟩, rfl⟩ := hcut
            clear e0 e4
            go_wp2
            go_loopw [3, 8] (fun u v wr => LpZ w4 nS u v wr) (fun _ v _ => nS - (intOf v).toNat)
            case atStart => exact ⟨0, _, by omega, rfl, rfl, Below.refl _ _⟩
            case round =>
              obtain ⟨k, z4, hk, rfl, rfl, hB5⟩ := hrel
              obtain ⟨w5, rfl⟩ : ∃ w5 : World, w5 = wr := ⟨_, rfl⟩
              replace hB5 := Lib.hid hB5
              have f5 := ac hB5.out e5
              by_cases hltk : k < nS
              · obtain ⟨sb, hsb⟩ : ∃ sb, c.ss[k]? = some sb := ⟨_, List.getElem?_eq_getElem (by rw [hnS.out]; exact hltk)⟩
                obtain ⟨xb, xo, hax, -, hx⟩ := (hRS4.out.after hB5.out) k sb hsb
                rw [hax] at f5
                have d2 : w5.cell? ⟨xb, xo + k * 5 + 2, none⟩ = some (.string sb.nm) := by simpa using hx 2 _ rfl
                have k0 : (0 : Int) ≤ k := by omega
                have k1 : (k : Int) < nS := by omega
                clear hsb hx hax
                go_wp2
                go_roundw
                case rel => exact ⟨k + 1, _, by omega, rfl, by go_num, hB5.out⟩
                case measure => simp [intOf]; omega
              · obtain rfl : k = nS := by omega
                by_cases hbig : 2097152 < z4
                · go_wp2
                  go_ret
                  exact ⟨⟨_, rfl⟩, B4.out.trans (hB5.out.mono B4.out.size)⟩
                · go_wp2
                  go_roundw
                  case rel => exact ⟨j + 1, _, by omega, rfl, by go_num, B14.out.trans (hB5.out.mono B14.out.size)⟩
                  case measure => simp [intOf]; omega
        · obtain rfl : j = m := by omega
          go_wp2
          go_roundw
          case rel => exact ⟨i + 1, _, by omega, rfl, by go_num, B3.out⟩
          case measure => simp [intOf]; omega
    · obtain rfl : i = n := by omega
      go_wp2
      go_ret
      exact ⟨⟨_, rfl⟩, hB.out⟩
end Go.Proofs.YtacalmdjkgbhlaaDoor
