/- FnIsSafeSelectorsConcat: zzBytes, the lengths' bounds. -/
import Derived.Test.YtacalmdjkgbhlaaDoorIs1
import Derived.Test.YtacalmdjkgbhlaaDoorST
set_option linter.unusedVariables false
set_option linter.unusedSimpArgs false
namespace Go.Proofs.YtacalmdjkgbhlaaDoor
open Go.RowKit
def Bc (r : List Cq) : Prop := r.length ≤ 1048576 ∧ ∀ c ∈ r, c.ss.length ≤ 1048576
def BytP (ga gb : List (List Cq)) (w : World) (e : Ending) (w' : World) : Prop := ∃ b, e = .returned (.bool b) ∧ w = w' ∧ (b = true → ga.length + gb.length ≤ 1048576 ∧ (∀ r ∈ ga, Bc r) ∧ (∀ r ∈ gb, Bc r))
theorem BytP.no (ga gb : List (List Cq)) (w : World) : BytP ga gb w (.returned (.bool false)) w := ⟨false, rfl, rfl, fun h => by cases h⟩
def LpN (w : World) (gs : List (List Cq)) (lo : Int) (u v : Value) (wr : World) : Prop := ∃ (i : Nat) (z : Int), i ≤ gs.length ∧ u = .int .i64 z ∧ v = .int .i64 i ∧ lo ≤ z ∧ z ≤ 1048576 ∧ (∀ i', i' < i → ∀ r, gs[i']? = some r → Bc r) ∧ w = wr
def LpJ (w : World) (g : List Cq) (lo : Int) (u v : Value) (wr : World) : Prop := ∃ (j : Nat) (z : Int), j ≤ g.length ∧ u = .int .i64 z ∧ v = .int .i64 j ∧ lo ≤ z ∧ z ≤ 1048576 ∧ (∀ j', j' < j → ∀ c, g[j']? = some c → c.ss.length ≤ 1048576) ∧ w = wr
def LpK (w : World) (n : Nat) (lo : Int) (u v : Value) (wr : World) : Prop := ∃ (k : Nat) (z : Int), k ≤ n ∧ u = .int .i64 z ∧ v = .int .i64 k ∧ lo ≤ z ∧ z ≤ 1048576 ∧ w = wr
theorem wr64 {x : Int} (h0 : 0 ≤ x) (h1 : x ≤ 4194304) : wrap64 x = x := by unfold wrap64; omega
set_option maxRecDepth 100000 in
set_option maxHeartbeats 4000000 in
theorem bytes4_c (ga gb : List (List Cq)) (a b : Option Addr) (ac bc : Nat) (O : Nat → Prop) (w : World) (ha : RG O w a ga) (hb : RG O w b gb) : Calls Tryd.prog 4 #[.slice a ga.length ac, .slice b gb.length bc] w (BytP ga gb w) := by
  have HA := Lib.hid ha
  have HB := Lib.hid hb
  obtain ⟨na, hna⟩ : ∃ n, ga.length = n := ⟨_, rfl⟩
  obtain ⟨nb, hnb⟩ : ∃ n, gb.length = n := ⟨_, rfl⟩
  rw [hna, hnb]
  replace hna := Lib.hid hna
  replace hnb := Lib.hid hnb
  clear ha hb
  by_cases h1 : (1048576 : Int) < na
  · go_enter Tryd.func4, Tryd.ntmps4
    go_wp2
    go_ret
    exact BytP.no _ _ _
  go_enter Tryd.func4, Tryd.ntmps4
  go_wp2
  go_loopw [5, 6] (fun u v wr => LpN w ga (na : Int) u v wr) (fun _ v _ => na - (intOf v).toNat)
  case atStart => exact ⟨0, _, by omega, rfl, rfl, by omega, by omega, fun i' h => by omega, rfl⟩
  case round =>
    obtain ⟨i, z, hi, rfl, rfl, z0, z1, hAll, rfl⟩ := hrel
    rw [hna.out] at hi
    replace hAll := Lib.hid hAll
    by_cases hlt : i < na
    · obtain ⟨g, hg⟩ : ∃ g, ga[i]? = some g := ⟨_, List.getElem?_eq_getElem (by rw [hna.out]; exact hlt)⟩
      obtain ⟨ab, ao, a', c', rfl, -, hc, -, hRC, hgm⟩ := HA.out i g hg
      replace hRC := Lib.hid hRC
      replace hg := Lib.hid hg
      have i0 : (0 : Int) ≤ i := by omega
      have i1 : (i : Int) < na := by omega
      obtain ⟨m, hmm⟩ : ∃ m, g.length = m := ⟨_, rfl⟩
      rw [hmm] at hc hgm
      replace hmm := Lib.hid hmm
      by_cases hm : (1048576 : Int) < m
      · go_wp2
        go_ret
        exact BytP.no _ _ _
      have ew := wr64 (x := z + m) (by omega) (by omega)
      by_cases hm2 : (1048576 : Int) < z + m
      · go_wp2
        go_ret
        exact BytP.no _ _ _
      go_wp2
      clear ew
      go_loopw [5, 7] (fun u v wr => LpJ w g (na : Int) u v wr) (fun _ v _ => m - (intOf v).toNat)
      case atStart => exact ⟨0, _, by omega, rfl, rfl, by omega, by omega, fun i' h => by omega, rfl⟩
      case round =>
        obtain ⟨j, y, hj, rfl, rfl, y0, y1, hAllj, rfl⟩ := hrel
        rw [hmm.out] at hj
        replace hAllj := Lib.hid hAllj
        by_cases hltj : j < m
        · obtain ⟨c, hcq⟩ : ∃ c, g[j]? = some c := ⟨_, List.getElem?_eq_getElem (by rw [hmm.out]; exact hltj)⟩
          obtain ⟨gb', go', ca, cz, rfl, -, hs, -, hRS, -, hsm⟩ := hRC.out j c hcq
          have d4 : w.cell? ⟨gb', go' + j * 6 + 4, none⟩ = some (.string c.tn) := by simpa using hs 4 _ rfl
          have d5 : w.cell? ⟨gb', go' + j * 6 + 5, none⟩ = some (.slice ca c.ss.length cz) := by simpa using hs 5 _ rfl
          have j0 : (0 : Int) ≤ j := by omega
          have j1 : (j : Int) < m := by omega
          obtain ⟨nS, hnS⟩ : ∃ y, c.ss.length = y := ⟨_, rfl⟩
          obtain ⟨tz, htz⟩ : ∃ y, c.tn.size = y := ⟨_, rfl⟩
          have hz4 : Hid (c.tn.size = tz) := Lib.hid htz
          rw [hnS] at d5 hsm
          replace hnS := Lib.hid hnS
          replace hRS := Lib.hid hRS
          replace hcq := Lib.hid hcq
          clear hs
          by_cases q1 : (1048576 : Int) < tz
          · go_wp2
            go_ret
            exact BytP.no _ _ _
          have ew1 := wr64 (x := y + tz) (by omega) (by omega)
          by_cases q2 : (1048576 : Int) < y + tz
          · go_wp2
            go_ret
            exact BytP.no _ _ _
          by_cases q3 : (1048576 : Int) < nS
          · go_wp2
            go_ret
            exact BytP.no _ _ _
          have ew2 := wr64 (x := y + tz + nS) (by omega) (by omega)
          by_cases q4 : (1048576 : Int) < y + tz + nS
          · go_wp2
            go_ret
            exact BytP.no _ _ _
          go_wp2
          clear ew1 ew2 d4
          go_loopw [5, 8] (fun u v wr => LpK w nS (na : Int) u v wr) (fun _ v _ => nS - (intOf v).toNat)
          case atStart => exact ⟨0, _, by omega, rfl, rfl, by omega, by omega, rfl⟩
          case round =>
            obtain ⟨k, x, hk, rfl, rfl, x0, x1, rfl⟩ := hrel
            by_cases hltk : k < nS
            · obtain ⟨sb, hsb⟩ : ∃ sb, c.ss[k]? = some sb := ⟨_, List.getElem?_eq_getElem (by rw [hnS.out]; exact hltk)⟩
              obtain ⟨xb, xo, hax3, -, hx⟩ := hRS.out k sb hsb
              rw [hax3] at d5
              have d2 : w.cell? ⟨xb, xo + k * 5 + 2, none⟩ = some (.string sb.nm) := by simpa using hx 2 _ rfl
              have k0 : (0 : Int) ≤ k := by omega
              have k1 : (k : Int) < nS := by omega
              obtain ⟨sz, hsz⟩ : ∃ y, sb.nm.size = y := ⟨_, rfl⟩
              clear hsb hx hax3
              by_cases p1 : (1048576 : Int) < sz
              · go_wp2
                go_ret
                exact BytP.no _ _ _
              have ew3 := wr64 (x := x + sz) (by omega) (by omega)
              by_cases p2 : (1048576 : Int) < x + sz
              · go_wp2
                go_ret
                exact BytP.no _ _ _
              go_wp2
              go_roundw
              case rel => exact ⟨k + 1, _, by omega, rfl, by go_num, by omega, by omega, by first | rfl | trivial⟩
              case measure => simp [intOf]; omega
            · obtain rfl : nS = k := by omega
              go_wp2
              go_roundw
              case rel => exact ⟨j + 1, _, by rw [hmm.out]; omega, rfl, by go_num, x0, x1, fun j' h c2 h2 => by
                by_cases e : j' = j
                · subst e; rw [hcq.out] at h2; cases h2; rw [hnS.out]; omega
                · exact hAllj.out j' (by omega) c2 h2, by first | rfl | trivial⟩
              case measure => simp [intOf]; omega
        · obtain rfl : m = j := by omega
          go_wp2
          go_roundw
          case rel => exact ⟨i + 1, _, by rw [hna.out]; omega, rfl, by go_num, y0, y1, fun i' h r h2 => by
            by_cases e : i' = i
            · subst e; rw [hg.out] at h2; cases h2
              refine ⟨by rw [hmm.out]; omega, fun c hc => ?_⟩
              obtain ⟨q, hq, hqc⟩ := List.getElem_of_mem hc
              exact hAllj.out q (by rw [← hmm.out]; exact hq) c (by rw [List.getElem?_eq_getElem hq, hqc])
            · exact hAll.out i' (by omega) r h2, by first | rfl | trivial⟩
          case measure => simp [intOf]; omega
    · obtain rfl : na = i := by omega
      have hAlna : Hid (∀ r ∈ ga, Bc r) := Lib.hid (fun r hr => by
        obtain ⟨q, hq, hqc⟩ := List.getElem_of_mem hr
        exact hAll.out q (by rw [← hna.out]; exact hq) r (by rw [List.getElem?_eq_getElem hq, hqc]))
      clear hAll
      by_cases h2 : (1048576 : Int) < nb
      · go_wp2
        go_ret
        exact BytP.no _ _ _
      have ewb := wr64 (x := z + nb) (by omega) (by omega)
      by_cases hb2 : (1048576 : Int) < z + nb
      · go_wp2
        go_ret
        exact BytP.no _ _ _
      go_wp2
      clear ewb
      go_loopw [5, 9] (fun u v wr => LpN w gb ((na : Int) + nb) u v wr) (fun _ v _ => nb - (intOf v).toNat)
      case atStart => exact ⟨0, _, by omega, rfl, rfl, by omega, by omega, fun i' h => by omega, rfl⟩
      case round =>
        obtain ⟨i, z, hi, rfl, rfl, z0, z1, hAll, rfl⟩ := hrel
        rw [hnb.out] at hi
        replace hAll := Lib.hid hAll
        by_cases hlt : i < nb
        · obtain ⟨g, hg⟩ : ∃ g, gb[i]? = some g := ⟨_, List.getElem?_eq_getElem (by rw [hnb.out]; exact hlt)⟩
          obtain ⟨ab, ao, a', c', rfl, -, hc, -, hRC, hgm⟩ := HB.out i g hg
          replace hRC := Lib.hid hRC
          replace hg := Lib.hid hg
          have i0 : (0 : Int) ≤ i := by omega
          have i1 : (i : Int) < nb := by omega
          obtain ⟨m, hmm⟩ : ∃ m, g.length = m := ⟨_, rfl⟩
          rw [hmm] at hc hgm
          replace hmm := Lib.hid hmm
          by_cases hm : (1048576 : Int) < m
          · go_wp2
            go_ret
            exact BytP.no _ _ _
          have ew := wr64 (x := z + m) (by omega) (by omega)
          by_cases hm2 : (1048576 : Int) < z + m
          · go_wp2
            go_ret
            exact BytP.no _ _ _
          go_wp2
          clear ew
          go_loopw [5, 10] (fun u v wr => LpJ w g ((na : Int) + nb) u v wr) (fun _ v _ => m - (intOf v).toNat)
          case atStart => exact ⟨0, _, by omega, rfl, rfl, by omega, by omega, fun i' h => by omega, rfl⟩
          case round =>
            obtain ⟨j, y, hj, rfl, rfl, y0, y1, hAllj, rfl⟩ := hrel
            rw [hmm.out] at hj
            replace hAllj := Lib.hid hAllj
            by_cases hltj : j < m
            · obtain ⟨c, hcq⟩ : ∃ c, g[j]? = some c := ⟨_, List.getElem?_eq_getElem (by rw [hmm.out]; exact hltj)⟩
              obtain ⟨gb', go', ca, cz, rfl, -, hs, -, hRS, -, hsm⟩ := hRC.out j c hcq
              have d4 : w.cell? ⟨gb', go' + j * 6 + 4, none⟩ = some (.string c.tn) := by simpa using hs 4 _ rfl
              have d5 : w.cell? ⟨gb', go' + j * 6 + 5, none⟩ = some (.slice ca c.ss.length cz) := by simpa using hs 5 _ rfl
              have j0 : (0 : Int) ≤ j := by omega
              have j1 : (j : Int) < m := by omega
              obtain ⟨nS, hnS⟩ : ∃ y, c.ss.length = y := ⟨_, rfl⟩
              obtain ⟨tz, htz⟩ : ∃ y, c.tn.size = y := ⟨_, rfl⟩
              have hz4 : Hid (c.tn.size = tz) := Lib.hid htz
              rw [hnS] at d5 hsm
              replace hnS := Lib.hid hnS
              replace hRS := Lib.hid hRS
              replace hcq := Lib.hid hcq
              clear hs
              by_cases q1 : (1048576 : Int) < tz
              · go_wp2
                go_ret
                exact BytP.no _ _ _
              have ew1 := wr64 (x := y + tz) (by omega) (by omega)
              by_cases q2 : (1048576 : Int) < y + tz
              · go_wp2
                go_ret
                exact BytP.no _ _ _
              by_cases q3 : (1048576 : Int) < nS
              · go_wp2
                go_ret
                exact BytP.no _ _ _
              have ew2 := wr64 (x := y + tz + nS) (by omega) (by omega)
              by_cases q4 : (1048576 : Int) < y + tz + nS
              · go_wp2
                go_ret
                exact BytP.no _ _ _
              go_wp2
              clear ew1 ew2 d4
              go_loopw [5, 11] (fun u v wr => LpK w nS ((na : Int) + nb) u v wr) (fun _ v _ => nS - (intOf v).toNat)
              case atStart => exact ⟨0, _, by omega, rfl, rfl, by omega, by omega, rfl⟩
              case round =>
                obtain ⟨k, x, hk, rfl, rfl, x0, x1, rfl⟩ := hrel
                by_cases hltk : k < nS
                · obtain ⟨sb, hsb⟩ : ∃ sb, c.ss[k]? = some sb := ⟨_, List.getElem?_eq_getElem (by rw [hnS.out]; exact hltk)⟩
                  obtain ⟨xb, xo, hax3, -, hx⟩ := hRS.out k sb hsb
                  rw [hax3] at d5
                  have d2 : w.cell? ⟨xb, xo + k * 5 + 2, none⟩ = some (.string sb.nm) := by simpa using hx 2 _ rfl
                  have k0 : (0 : Int) ≤ k := by omega
                  have k1 : (k : Int) < nS := by omega
                  obtain ⟨sz, hsz⟩ : ∃ y, sb.nm.size = y := ⟨_, rfl⟩
                  clear hsb hx hax3
                  by_cases p1 : (1048576 : Int) < sz
                  · go_wp2
                    go_ret
                    exact BytP.no _ _ _
                  have ew3 := wr64 (x := x + sz) (by omega) (by omega)
                  by_cases p2 : (1048576 : Int) < x + sz
                  · go_wp2
                    go_ret
                    exact BytP.no _ _ _
                  go_wp2
                  go_roundw
                  case rel => exact ⟨k + 1, _, by omega, rfl, by go_num, by omega, by omega, by first | rfl | trivial⟩
                  case measure => simp [intOf]; omega
                · obtain rfl : nS = k := by omega
                  go_wp2
                  go_roundw
                  case rel => exact ⟨j + 1, _, by rw [hmm.out]; omega, rfl, by go_num, x0, x1, fun j' h c2 h2 => by
                    by_cases e : j' = j
                    · subst e; rw [hcq.out] at h2; cases h2; rw [hnS.out]; omega
                    · exact hAllj.out j' (by omega) c2 h2, by first | rfl | trivial⟩
                  case measure => simp [intOf]; omega
            · obtain rfl : m = j := by omega
              go_wp2
              go_roundw
              case rel => exact ⟨i + 1, _, by rw [hnb.out]; omega, rfl, by go_num, y0, y1, fun i' h r h2 => by
                by_cases e : i' = i
                · subst e; rw [hg.out] at h2; cases h2
                  refine ⟨by rw [hmm.out]; omega, fun c hc => ?_⟩
                  obtain ⟨q, hq, hqc⟩ := List.getElem_of_mem hc
                  exact hAllj.out q (by rw [← hmm.out]; exact hq) c (by rw [List.getElem?_eq_getElem hq, hqc])
                · exact hAll.out i' (by omega) r h2, by first | rfl | trivial⟩
              case measure => simp [intOf]; omega
        · obtain rfl : nb = i := by omega
          have hAlnb : Hid (∀ r ∈ gb, Bc r) := Lib.hid (fun r hr => by
            obtain ⟨q, hq, hqc⟩ := List.getElem_of_mem hr
            exact hAll.out q (by rw [← hnb.out]; exact hq) r (by rw [List.getElem?_eq_getElem hq, hqc]))
          clear hAll
          go_wp2
          go_ret
          exact ⟨true, rfl, rfl, fun _ => ⟨by rw [hna.out, hnb.out]; omega, hAlna.out, hAlnb.out⟩⟩
end Go.Proofs.YtacalmdjkgbhlaaDoor
