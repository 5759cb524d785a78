/- zzMinLoc. -/
import Derived.Test.YthdogpahkglaoaaDoorBc7
set_option linter.unusedVariables false
set_option linter.unusedSimpArgs false
namespace Go.Proofs.YthdogpahkglaoaaDoor
open Go.RowKit
def seenB (ix : Nat → Nat) (i : Nat) (j : Nat) : Bool := (List.range j).any fun j => decide (ix j = ix i)
theorem seenB_succ (ix : Nat → Nat) (i j : Nat) : seenB ix i (j + 1) = (seenB ix i j || decide (ix j = ix i)) := by
  unfold seenB
  rw [List.range_succ, List.any_append]
  simp
/-- the place of corner i's rule, 0 where it was met before -/
def lF (ix : Nat → Nat) (L : Nat → Int) (i : Nat) : Int := if seenB ix i i = true then 0 else L (ix i)
def mnF (ix : Nat → Nat) (L : Nat → Int) : Nat → Int
  | 0 => 0
  | i + 1 => if i = 0 ∨ lF ix L i < mnF ix L i then lF ix L i else mnF ix L i
set_option maxRecDepth 100000 in
set_option maxHeartbeats 4000000 in
theorem minloc_c (ix : Nat → Nat) (L : Nat → Int) (A n c : Nat) (w : World) (hn : n ≤ 4096) (hix : ∀ i, i < 4 → ix i < n) (hL : ∀ i, i < n → w.cell? ⟨A, i, none⟩ = some (.int .i32 (L i))) :
    Calls Tryd.prog 11 #[.agg #[.int .i64 (ix 0), .int .i64 (ix 1), .int .i64 (ix 2), .int .i64 (ix 3)], .slice (some ⟨A, 0, none⟩) n c] w (Gv (.int .i32 (mnF ix L 4)) w) := by
  have HL := Lib.hid hL; have HX := Lib.hid hix
  clear hL hix
  go_enter Tryd.func11, Tryd.ntmps11
  go_upto_region 2 with fail
  refine wp_gen (fun W hW => ?_)
  have hb : Hid (Below w.heap.size w W) := Lib.hid (by rw [hW]; exact ba _ _)
  have hQ : Hid (∀ i, i < 4 → W.cell? ⟨w.heap.size, i, none⟩ = some (.int .i64 (ix i))) := Lib.hid (by
    intro i hi
    rw [hW]
    match i, hi with
    | 0, _ => simp [go_sem]
    | 1, _ => simp [go_sem]
    | 2, _ => simp [go_sem]
    | 3, _ => simp [go_sem])
  clear hW
  generalize hP : w.heap.size = P at hQ ⊢
  replace hP := Lib.hid hP
  go_wp2
  go_loopw [6, 5] (fun v u wr => ∃ i : Nat, i ≤ 4 ∧ v = .int .i64 i ∧ u = .int .i32 (mnF ix L i) ∧ Below W.heap.size W wr) (fun v _ _ => 4 - (intOf v).toNat)
  case atStart => exact ⟨0, by omega, rfl, rfl, Below.refl _ _⟩
  case round =>
    obtain ⟨i, hi, rfl, rfl, hB⟩ := hrel
    by_cases hlt : i < 4
    · have i0 : (0 : Int) ≤ i := by omega
      have i1 : (i : Int) < 4 := by omega
      obtain ⟨w1, rfl⟩ : ∃ w1 : World, w1 = wr := ⟨_, rfl⟩
      have hB' := Lib.hid hB
      have hQr := Lib.hid (fun k hk => ac hB (hQ.out k hk))
      have hXi := HX.out i hlt
      have hwr : Hid (Below w.heap.size w w1) := Lib.hid (hb.out.trans (hB.mono hb.out.size))
      obtain ⟨mm, hmm⟩ : ∃ mm, mm = mnF ix L i := ⟨_, rfl⟩
      rw [← hmm]
      replace hmm := Lib.hid hmm
      clear hB
      go_wp2
      go_loopw [9, 8] (fun v u wx => ∃ j : Nat, j ≤ i ∧ v = .int .i64 j ∧ u = .bool (seenB ix i j) ∧ Below w1.heap.size w1 wx) (fun v _ _ => i - (intOf v).toNat)
      case atStart => exact ⟨0, by omega, rfl, rfl, Below.refl _ _⟩
      case round =>
        obtain ⟨j, hj, rfl, rfl, hC⟩ := hrel
        by_cases hji : j < i
        · have j0 : (0 : Int) ≤ j := by omega
          have j1 : (j : Int) < 4 := by omega
          have dj := ac hC (hQr.out j (by omega))
          have di := ac hC (hQr.out i hlt)
          have yj := fun d os => cell_regrown dj d os
          have yi := fun d os => cell_regrown di d os
          have hs := Lib.hid (seenB_succ ix i j)
          generalize seenB ix i j = sb at hs ⊢
          replace hC := Lib.hid hC
          clear dj di
          go_upto_region 10 with fail
          refine drawn_tail 6 (by kernel_rfl) (by kernel_rfl) (by kernel_rfl) (fun Q hQ => ?_)
          simp only [List.take_succ_cons, List.take_zero, List.drop_succ_cons, List.drop_zero]
          repeat (quiet_step (fail))
          refine wpQuiet_nil ?_
          intro W3 hw
          have hb3 : Hid (Below w1.heap.size w1 W3) := Lib.hid (by
            obtain ⟨⟨d, os⟩, rfl⟩ := hw
            exact hC.out.trans ((below_regrown _ d os).mono hC.out.size))
          clear hw yj yi
          by_cases he : ix j = ix i
          · have hs' : Hid (seenB ix i (j + 1) = true) := Lib.hid (by rw [hs.out]; simp [he])
            go_wp2
            go_roundw
            case rel => exact ⟨j + 1, by omega, by go_num, by rw [hs'.out], hb3.out⟩
            case measure => simp [intOf]; omega
          · have hs' : Hid (seenB ix i (j + 1) = sb) := Lib.hid (by rw [hs.out]; simp [he])
            have he' : ((ix j : Int) == (ix i : Int)) = false := by simp; omega
            clear he
            go_wp2
            go_roundw
            case rel => exact ⟨j + 1, by omega, by go_num, by rw [hs'.out], hb3.out⟩
            case measure => simp [intOf]; omega
        · obtain rfl : j = i := by omega
          have di := ac hC (hQr.out j hlt)
          have dl := ac hC (ac hwr.out (HL.out (ix j) hXi))
          have x0 : (0 : Int) ≤ (ix j : Int) := by omega
          have x1 : (ix j : Int) < n := by omega
          have hbn : Hid (Below W.heap.size W wr) := Lib.hid (hB'.out.trans (hC.mono hB'.out.size))
          have hmn : Hid (mnF ix L (j + 1) = if j = 0 ∨ lF ix L j < mm then lF ix L j else mm) := Lib.hid (by rw [hmm.out]; rfl)
          have hlf : Hid (lF ix L j = if seenB ix j j = true then 0 else L (ix j)) := Lib.hid rfl
          generalize lF ix L j = lf at hmn hlf
          clear hC
          cases hsb : seenB ix j j with
          | true =>
            rw [hsb, if_pos rfl] at hlf
            have hlf := hlf.out
            subst hlf
            by_cases hz : j = 0 ∨ (0 : Int) < mm
            · have hm' : Hid (mnF ix L (j + 1) = (0 : Int)) := Lib.hid (by rw [hmn.out, if_pos hz])
              clear hmn
              by_cases hj0 : j = 0
              · subst hj0
                go_wp2
                go_roundw
                case rel => exact ⟨1, by omega, by go_num, by rw [hm'.out], hbn.out⟩
                case measure => simp [intOf]
              · have hlm : (0 : Int) < mm := by rcases hz with q | q; exact absurd q hj0; exact q
                clear hz
                go_wp2
                go_roundw
                case rel => exact ⟨j + 1, by omega, by go_num, by rw [hm'.out], hbn.out⟩
                case measure => simp [intOf]; omega
            · have hm' : Hid (mnF ix L (j + 1) = mm) := Lib.hid (by rw [hmn.out, if_neg hz])
              have hj0 : ¬ (j = 0) := fun q => hz (.inl q)
              have hlm : ¬ ((0 : Int) < mm) := fun q => hz (.inr q)
              clear hmn hz
              go_wp2
              go_roundw
              case rel => exact ⟨j + 1, by omega, by go_num, by rw [hm'.out], hbn.out⟩
              case measure => simp [intOf]; omega
          | false =>
            rw [hsb, if_neg (by decide)] at hlf
            have hlf := hlf.out
            subst hlf
            by_cases hz : j = 0 ∨ L (ix j) < mm
            · have hm' : Hid (mnF ix L (j + 1) = L (ix j)) := Lib.hid (by rw [hmn.out, if_pos hz])
              clear hmn
              by_cases hj0 : j = 0
              · subst hj0
                go_wp2
                go_roundw
                case rel => exact ⟨1, by omega, by go_num, by rw [hm'.out], hbn.out⟩
                case measure => simp [intOf]
              · have hlm : L (ix j) < mm := by rcases hz with q | q; exact absurd q hj0; exact q
                clear hz
                go_wp2
                go_roundw
                case rel => exact ⟨j + 1, by omega, by go_num, by rw [hm'.out], hbn.out⟩
                case measure => simp [intOf]; omega
            · have hm' : Hid (mnF ix L (j + 1) = mm) := Lib.hid (by rw [hmn.out, if_neg hz])
              have hj0 : ¬ (j = 0) := fun q => hz (.inl q)
              have hlm : ¬ (L (ix j) < mm) := fun q => hz (.inr q)
              clear hmn hz
              go_wp2
              go_roundw
              case rel => exact ⟨j + 1, by omega, by go_num, by rw [hm'.out], hbn.out⟩
              case measure => simp [intOf]; omega
    · obtain rfl : i = 4 := by omega
      have hB' := Lib.hid hB
      clear hB
      go_wp2
      go_ret
      exact ⟨rfl, hb.out.trans (hB'.out.mono hb.out.size)⟩
end Go.Proofs.YthdogpahkglaoaaDoor
