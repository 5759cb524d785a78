/- FnAllSelectorsAreDeadSplitReverse returns true at every argument (no condition). -/
import Derived.Test.YtidmdcadejfjhaaDd5
set_option linter.unusedVariables false
set_option linter.unusedSimpArgs false
namespace Go.Proofs.Ytidmdcadejfjhaa.fnAllSelectorsAreDeadSplitReverse
open Go.ChangeShapes Go.WideShapes Go.ChangeAt Go.RowKit
open Go.ChangeMaps (open_string shut_string)
set_option maxRecDepth 100000
set_option maxHeartbeats 4000000
/-- a slice of complex selectors, read -/
def RowX (w : World) (A : Option Addr) (n : Nat) (ls : List CxR) : Prop := ls.length = n ∧ ∀ (i : Nat) (r : CxR), ls[i]? = some r → ∃ x, A = some x ∧ w.cell? (x.add i) = some (.slice r.a r.n r.c) ∧ GCx w r
theorem RowX.below {w w' : World} {A : Option Addr} {n : Nat} {ls : List CxR} (h : RowX w A n ls) (hb : Below w.heap.size w w') : RowX w' A n ls := ⟨h.1, fun i r hi => by
  obtain ⟨x, e, hc, hg⟩ := h.2 i r hi
  exact ⟨x, e, ac hb hc, hg.below hb⟩⟩
theorem add0 (T m : Nat) : (⟨T, 0, none⟩ : Addr).add m = ⟨T, m, none⟩ := by
  unfold Addr.add
  by_cases h : m = 0
  · subst h; rfl
  · simp [h]
theorem add_addn (T k m : Nat) : (⟨T, k, none⟩ : Addr).add m = ⟨T, k + m, none⟩ := by
  unfold Addr.add
  by_cases h : m = 0
  · subst h; rfl
  · simp [h]
theorem RowX.of {w : World} {B g n c : Nat} {ls : List CxR} (h : w.ownsRow B 50 1 (.slice (some ⟨g, 0, none⟩) n c) n (flat CxR.cells ls)) (hg : ∀ s ∈ ls, GCx w s) : RowX w (some ⟨g, 0, none⟩) n ls := ⟨flat_n CxR.len (by omega) h, fun i r hi => by
  refine ⟨_, rfl, ?_, hg r (List.mem_of_getElem? hi)⟩
  have := own_at CxR.len h hi (j := 0) (u := .slice r.a r.n r.c) rfl
  rw [add0]
  simpa using this⟩
theorem RowX.pre {w : World} {A : Option Addr} {n k : Nat} {ls : List CxR} (h : RowX w A n ls) (hk : k ≤ n) : RowX w A k (ls.take k) := ⟨by rw [List.length_take, h.1]; omega, fun i r hi => by
  rw [List.getElem?_take] at hi
  split at hi
  · exact h.2 i r hi
  · cases hi⟩
theorem RowX.suf {w : World} {g n k : Nat} {ls : List CxR} (h : RowX w (some ⟨g, 0, none⟩) n ls) (hk : k ≤ n) : RowX w (some ⟨g, k, none⟩) (n - k) (ls.drop k) := ⟨by rw [List.length_drop, h.1], fun i r hi => by
  rw [List.getElem?_drop] at hi
  obtain ⟨x, e, hc, hg⟩ := h.2 _ r hi
  cases e
  rw [add0] at hc
  exact ⟨_, rfl, by rw [add_addn]; exact hc, hg⟩⟩
def LF (w : World) (n : Nat) (ls : List CxR) (i : Value) (wr : World) : Prop := ∃ k : Nat, k ≤ n ∧ i = .int .i64 k ∧ (ls.take k).all CxR.dead = true ∧ Below w.heap.size w wr
theorem all_take_succ {T : Type} (f : T → Bool) (l : List T) (k : Nat) (x : T) (h : l[k]? = some x) : (l.take (k + 1)).all f = ((l.take k).all f && f x) := by
  rw [List.take_add_one, h]; simp
theorem dead16_c (A : Option Addr) (n c : Nat) (ls : List CxR) (w : World) (h : RowX w A n ls) (hn : n ≤ 65536) : Calls Try.prog 16 #[.slice A n c] w (RetB (ls.all CxR.dead) w) := by
  replace h := Lib.hid h
  go_enter Try.func16, Try.ntmps16
  go_wp2_with fail
  go_loopw [7] (fun i wr => LF w n ls i wr) (fun i _ => n - (intOf i).toNat)
  case atStart => exact ⟨0, by omega, rfl, by simp, Below.refl _ _⟩
  case round =>
    obtain ⟨k, hk, rfl, hd, hB⟩ := hrel
    obtain ⟨Wo, hWo⟩ : ∃ Wo, Wo = wr := ⟨_, rfl⟩
    subst hWo
    have hX := h.out.below hB
    replace hB := Lib.hid hB; replace hd := Lib.hid hd
    by_cases hlt : k < n
    · obtain ⟨r, hr⟩ : ∃ r, ls[k]? = some r := ⟨_, List.getElem?_eq_getElem (by rw [h.out.1]; exact hlt)⟩
      obtain ⟨x, rfl, e0, hg⟩ := hX.2 k r hr
      replace hr := Lib.hid hr; replace hg := Lib.hid hg
      clear hX
      have i0 : (0 : Int) ≤ k := by omega
      have i1 : (k : Int) < n := by omega
      go_upto_region 4 with fail
      clear e0
      refine wp_gen (fun W hW => ?_)
      have hbW : Below Wo.heap.size Wo W := by rw [hW]; exact ba _ _
      have e0 : W.cell? ⟨Wo.heap.size, 0, none⟩ = some (.slice r.a r.n r.c) := by rw [hW]; simp [go_sem]
      clear hW
      have hB1 := Lib.hid (hB.out.trans (hbW.mono hB.out.size))
      have C := Lib.hid (dead19_c r W (hg.out.below hbW))
      clear hbW
      generalize Wo.heap.size = PS at *
      by_cases hd1 : r.dead = true
      · rw [hd1] at C
        have hnx : Hid ((ls.take (k + 1)).all CxR.dead = true) := Lib.hid (by rw [all_take_succ CxR.dead ls k _ hr.out, hd.out, hd1]; rfl)
        clear hd1
        go_wp2_with (go_at_call 19; (with_reducible refine C.out.mono ?_); rintro e w2 ⟨rfl, hb⟩; have hB2 := Lib.hid (hB1.out.trans (hb.mono hB1.out.size)); clear hb)
        exact ⟨⟨k + 1, by omega, by go_num, hnx.out, hB2.out⟩, by simp [intOf]; omega⟩
      · have hd2 : r.dead = false := by simpa using hd1
        rw [hd2] at C
        have hf : Hid (ls.all CxR.dead = false) := Lib.hid (by
          rw [List.all_eq_false]; exact ⟨r, List.mem_of_getElem? hr.out, hd1⟩)
        clear hd1 hd2
        have HP : ∀ w2, Below w.heap.size w w2 → RetB (ls.all CxR.dead) w (.returned (.bool false)) w2 := fun w2 hb => ⟨by rw [hf.out], hb⟩
        replace HP := Lib.hid HP
        go_wp2_with (go_at_call 19; (with_reducible refine C.out.mono ?_); rintro e w2 ⟨rfl, hb⟩; have hB2 := Lib.hid (hB1.out.trans (hb.mono hB1.out.size)); clear hb)
        go_ret
        exact HP.out _ hB2.out
    · obtain rfl : k = n := by omega
      have HP : RetB (ls.all CxR.dead) w (.returned (.bool true)) Wo := ⟨by have := hd.out; rw [List.take_of_length_le (by rw [h.out.1]; exact Nat.le_refl _)] at this; rw [this], hB.out⟩
      replace HP := Lib.hid HP
      go_wp2_with fail
      go_ret
      exact HP.out
theorem dead13_c (A : Option Addr) (n c : Nat) (ls : List CxR) (w : World) (h : RowX w A n ls) (hn : n ≤ 65536) : Calls Try.prog 13 #[.slice A n c] w (RetB (ls.all CxR.dead) w) := by
  have C := Lib.hid (dead16_c A n c ls w h hn)
  clear h
  go_enter Try.func13, Try.ntmps13
  go_wp2_with (go_at_call 16; (with_reducible refine C.out.mono ?_); rintro e w2 ⟨rfl, hb⟩; replace hb := Lib.hid hb)
  go_ret
  exact ⟨rfl, hb.out⟩
def SmallB (w : World) (N : Nat) (e : Ending) (w' : World) : Prop := ∃ b : Bool, e = .returned (.bool b) ∧ (b = true → N ≤ 1048576) ∧ w = w'
theorem zz11_c (A0 A1 A2 A3 : Option Addr) (n0 n1 n2 n3 c0 c1 c2 c3 : Nat) (a : Int) (w : World) (m0 : n0 ≤ maxLen) (m1 : n1 ≤ maxLen) (m2 : n2 ≤ maxLen) (m3 : n3 ≤ maxLen) : Calls Try.prog 11 #[.slice A0 n0 c0, .slice A1 n1 c1, .slice A2 n2 c2, .slice A3 n3 c3, .int .i64 a] w (SmallB w (n0 + n1 + n2 + n3)) := by
  unfold maxLen at m0 m1 m2 m3
  go_enter Try.func11, Try.ntmps11
  go_wp2_with fail
  all_goals (go_ret; exact ⟨_, rfl, (fun h => by first | exact absurd h (by decide) | omega), rfl⟩)
theorem slice_pre (g n c k : Nat) (w : World) (hk : k ≤ n) (hn : n ≤ c) : True := trivial
def LR (w0 w7 : World) (B n : Nat) (ls : List CxR) (out i : Value) (wr : World) : Prop := ∃ (k : Nat) (g c : Nat), k ≤ n ∧ i = .int .i64 ((n : Int) - 1 - k) ∧ out = .slice (some ⟨g, 0, none⟩) k c ∧ wr.ownsRow w7.heap.size 50 1 (.slice (some ⟨g, 0, none⟩) k c) k (flat CxR.cells (ls.reverse.take k)) ∧ Below w7.heap.size w7 wr
theorem main (a0 : Option Addr) (n0 : Nat) (c0 : Nat) (f0 : Nat → Int) (a1 : Option Addr) (n1 : Nat) (c1 : Nat) (f1 : Nat → Int) (a2 : Option Addr) (n2 : Nat) (c2 : Nat) (f2 : Nat → Int) (a3 : Option Addr) (n3 : Nat) (c3 : Nat) (f3 : Nat → Int) (a4 : Int) (w : World) (h0 : Byt w a0 n0 f0) (h1 : Byt w a1 n1 f1) (h2 : Byt w a2 n2 f2) (h3 : Byt w a3 n3 f3) (l0 : n0 ≤ 4096) (l1 : n1 ≤ 65536) (l2 : n2 ≤ 65536) (l3 : n3 ≤ 65536) :
    Calls Try.prog 4 #[.slice a0 n0 c0, .slice a1 n1 c1, .slice a2 n2 c2, .slice a3 n3 c3, .int .i64 a4] w fun e w' => e = .returned (.bool true) ∧ Below w.heap.size w w' := by
  have Z := Lib.hid (zz11_c a0 a1 a2 a3 n0 n1 n2 n3 c0 c1 c2 c3 a4 w (by unfold maxLen; omega) (by unfold maxLen; omega) (by unfold maxLen; omega) (by unfold maxLen; omega))
  have C := Lib.hid (all12_c a0 a1 a2 a3 n0 n1 n2 n3 c0 c1 c2 c3 f0 f1 f2 f3 w h0 h1 h2 h3 (by omega))
  clear h0 h1 h2 h3
  go_enter Try.func4, Try.ntmps4
  go_upto_region 7 with (go_at_call 11; (with_reducible refine Z.out.mono ?_); rintro e w' ⟨b, rfl, hbz, rfl⟩; replace hbz := Lib.hid hbz; cases b)
  any_goals (go_ret; exact ⟨rfl, Below.refl _ _⟩)
  clear Z
  go_upto_region 9 with (go_at_call 12; go_loud (with_reducible refine C.out.mono ?_); rintro e w1 ⟨g, c, ls, d, rfl, hO, hG, hB⟩; replace hO := Lib.hid hO; replace hG := Lib.hid hG; replace hB := Lib.hid hB)
  clear C
  go_upto_if 66 with fail
  go_cut [13] (fun s wx => ∃ x : Int, 0 ≤ x ∧ s = .int .i64 x ∧ w1 = wx)
  case first =>
    by_cases hn : a4 < 0
    · go_wp2_with fail
      go_meet
      exact ⟨0, by omega, rfl, rfl⟩
    · go_wp2_with fail
      go_meet
      exact ⟨a4, by omega, rfl, rfl⟩
  case rest =>
    obtain ⟨x, hx, rfl, rfl⟩ := hcut
    go_upto_if 70 with fail
    go_cut [13] (fun s wx => ∃ x : Nat, x ≤ n0 ∧ s = .int .i64 x ∧ w1 = wx)
    case first =>
      by_cases hn : (n0 : Int) < x
      · go_wp2_with fail
        go_meet
        exact ⟨n0, by omega, rfl, rfl⟩
      · go_wp2_with fail
        go_meet
        exact ⟨x.toNat, by omega, by rw [Int.toNat_of_nonneg hx], rfl⟩
    case rest =>
      obtain ⟨k, hk, rfl, rfl⟩ := hcut
      have hX := Lib.hid (RowX.of hO.out hG.out)
      obtain ⟨_, _, he, hnc, hcm⟩ := own_shape hO.out
      simp only [Value.slice.injEq] at he
      obtain ⟨-, -, hcc⟩ := he
      subst hcc
      unfold maxLen at hcm
      clear hO hG
      have D0 := Lib.hid (fun w' hb => dead13_c _ n0 c ls w' (hX.out.below (w' := w') hb) (by omega))
      have D1 := Lib.hid (fun w' hb => dead13_c _ k c (ls.take k) w' ((hX.out.pre hk).below (w' := w') hb) (by omega))
      have D2 := Lib.hid (fun c' w' hb => dead13_c _ (n0 - k) c' (ls.drop k) w' ((hX.out.suf hk).below (w' := w') hb) (by omega))
      replace D0 := Lib.hid (fun w' (hb : Below w1.heap.size w1 w') => (show Calls Try.prog 13 #[.slice (some ⟨g, 0, none⟩) n0 c] w' (fun e w2 => e = .returned (.bool (ls.all CxR.dead)) ∧ Below w'.heap.size w' w2) from D0.out w' hb))
      replace D1 := Lib.hid (fun w' (hb : Below w1.heap.size w1 w') => (show Calls Try.prog 13 #[.slice (some ⟨g, 0, none⟩) k c] w' (fun e w2 => e = .returned (.bool ((ls.take k).all CxR.dead)) ∧ Below w'.heap.size w' w2) from D1.out w' hb))
      replace D2 := Lib.hid (fun w' (hb : Below w1.heap.size w1 w') => (show Calls Try.prog 13 #[.slice (some ⟨g, k, none⟩) (n0 - k) (c - k)] w' (fun e w2 => e = .returned (.bool ((ls.drop k).all CxR.dead)) ∧ Below w'.heap.size w' w2) from D2.out (c - k) w' hb))
      have D2' := Lib.hid (fun (hk' : k = n0) (w' : World) (hb : Below w1.heap.size w1 w') => (show Calls Try.prog 13 #[.slice (some ⟨g, 0, none⟩) (n0 - k) (c - k)] w' (fun e w2 => e = .returned (.bool ((ls.drop k).all CxR.dead)) ∧ Below w'.heap.size w' w2) from dead13_c _ _ _ _ w' ⟨by rw [List.length_drop, hX.out.1], fun i r hi => by
        rw [List.getElem?_drop, List.getElem?_eq_none (by rw [hX.out.1]; omega)] at hi; cases hi⟩ (by omega)))
      have hall : Hid (ls.all CxR.dead = ((ls.take k).all CxR.dead && (ls.drop k).all CxR.dead)) := Lib.hid (by rw [← List.all_append, List.take_append_drop])
      have hrev : Hid (ls.reverse.all CxR.dead = ls.all CxR.dead) := Lib.hid (by rw [List.all_reverse])
      generalize hp : ls.all CxR.dead = P at *
      generalize hq : (ls.take k).all CxR.dead = P1 at *
      generalize hq' : (ls.drop k).all CxR.dead = P2 at *
      clear hp hq hq'
      have k0 : (0 : Int) ≤ k := by omega
      have k1 : (k : Int) ≤ n0 := by omega
      have k2 : (k : Int) ≤ c := by omega
      go_upto_region 14 with (go_at_call 13; (with_reducible refine (D0.out _ (Below.refl _ _)).mono ?_); rintro e w2 ⟨rfl, hb⟩; have hb2 := Lib.hid hb; clear hb)
      go_upto_region 15 with (go_at_call 13; (with_reducible refine (D1.out _ hb2.out).mono ?_); rintro e w3 ⟨rfl, hb⟩; replace hb2 := Lib.hid (hb2.out.trans (hb.mono hb2.out.size)); clear hb)
      go_cut [16] (fun v wx => v = .bool P2 ∧ Below w1.heap.size w1 wx)
      case first =>
        by_cases hkc : c = k
        · subst hkc
          obtain rfl : c = n0 := by omega
          have D3 := Lib.hid (by have := D2'.out rfl _ hb2.out; rw [Nat.sub_self] at this; exact this)
          go_wp2_with (go_at_call 13; (with_reducible refine D3.out.mono ?_); rintro e w4 ⟨rfl, hb⟩; replace hb2 := Lib.hid (hb2.out.trans (hb.mono hb2.out.size)); clear hb)
          go_meet
          exact ⟨rfl, hb2.out⟩
        · go_wp2_with (go_at_call 13; (with_reducible refine (D2.out _ hb2.out).mono ?_); rintro e w4 ⟨rfl, hb⟩; replace hb2 := Lib.hid (hb2.out.trans (hb.mono hb2.out.size)); clear hb)
          go_meet
          exact ⟨rfl, hb2.out⟩
      case rest =>
        obtain ⟨rfl, hb3⟩ := hcut
        obtain ⟨w7, hw7⟩ : ∃ w7, w7 = wc := ⟨_, rfl⟩
        subst hw7
        clear hb2 D0 D1 D2 D2'
        have hX7 := Lib.hid (hX.out.below hb3)
        have hB7 := Lib.hid (hB.out.trans (hb3.mono hB.out.size))
        clear hX hB hb3
        have mk := make0_z (P := Try.prog) #[.slice none 0 0] Try.underlying44 info50 n0 (by omega) (by omega)
        simp only [Nat.mul_one] at mk
        go_upto_region 17 with fail
        clear mk
        refine wp_gen (fun W hW => ?_)
        have hO : Hid (W.ownsRow w7.heap.size 50 1 (.slice (some ⟨w7.heap.size, 0, none⟩) 0 n0) 0 (flat CxR.cells (ls.reverse.take 0))) := Lib.hid (by rw [hW]; exact World.ownsRow_made _ _ _ (Nat.le_refl _) (by unfold maxLen; omega) (by rw [size_madeCells]; omega))
        have hb : Hid (Below w7.heap.size w7 W) := Lib.hid (by rw [hW]; exact ba _ _)
        clear hW
        go_wp2_with fail
        go_loopw [17, 18] (fun out i wr => LR w7 w7 0 n0 ls out i wr) (fun _ i _ => ((intOf i) + 1).toNat)
        case atStart => exact ⟨0, _, _, by omega, by go_num, rfl, hO.out, hb.out⟩
        case round =>
          obtain ⟨m, gr, cr, hm, rfl, rfl, hOr, hBr⟩ := hrel
          obtain ⟨Wo, hWo⟩ : ∃ Wo, Wo = wr := ⟨_, rfl⟩
          subst hWo
          replace hOr := Lib.hid hOr; replace hBr := Lib.hid hBr
          by_cases hlt : m < n0
          · obtain ⟨r, hr⟩ : ∃ r, ls[n0 - 1 - m]? = some r := ⟨_, List.getElem?_eq_getElem (by rw [hX7.out.1]; omega)⟩
            obtain ⟨x, hx, e0, hg⟩ := (hX7.out.below hBr.out).2 _ r hr
            cases hx
            have hr' : ls.reverse[m]? = some r := by rw [List.getElem?_reverse (by rw [hX7.out.1]; omega), hX7.out.1]; exact hr
            rw [add0] at e0
            obtain ⟨q, hq⟩ : ∃ q : Nat, n0 - 1 - m = q := ⟨_, rfl⟩
            rw [hq] at e0
            have hqi : (n0 : Int) - 1 - m = q := by omega
            rw [hqi]
            have RR : ∀ out' W5 gg cc, out' = Value.slice (some ⟨gg, 0, none⟩) (m + 1) cc → W5.ownsRow w7.heap.size 50 1 out' (m + 1) (flat CxR.cells (ls.reverse.take m) ++ r.arr.toList) → Below w7.heap.size w7 W5 → LR w7 w7 0 n0 ls out' (.int .i64 ((q : Int) - 1)) W5 := fun out' W5 gg cc e ho hb => by
              subst e
              refine ⟨m + 1, gg, cc, by omega, by congr 1; omega, rfl, ?_, hb⟩
              have e2 : ls.reverse.take (m + 1) = ls.reverse.take m ++ [r] := by rw [List.take_add_one, hr']; rfl
              rw [e2, ← flat_add]
              exact ho
            replace RR := Lib.hid RR
            have q0 : (0 : Int) ≤ q := by omega
            have q1 : (q : Int) < n0 := by omega
            have hmq : Hid (intOf (Value.int .i64 (q : Int)) = q) := Lib.hid rfl
            clear hr hr' hq hqi hg
            go_wp2_with (at_builtin; go_loud (refine app1n (w := Wo) (.tmp 93) (.tmp 98) 44 50 w7.heap.size 1 24 #[.slice none 0 0] r.arr _ m _ rfl rfl rfl rfl rfl Try.underlying44 info50 rfl (by omega) hOr.out rfl (CxR.one r) (by omega) (by omega) hBr.out.size ?_); intro out2 W5 hO5 hkp hnew; replace hkp := Lib.hid hkp; replace hO5 := Lib.hid hO5; clear hnew)
            obtain ⟨gg, cc, he, -⟩ := own_some hO5.out (by omega)
            exact ⟨RR.out _ _ gg cc he hO5.out (hBr.out.trans (hkp.out.below hBr.out.size (fun b e => (hOr.out.lt b e).1))), by simp [intOf]⟩
          · obtain rfl : m = n0 := by omega
            have hi : (m : Int) - 1 - m = -1 := by omega
            rw [hi]
            clear hi
            have hXr := Lib.hid (RowX.of hOr.out (fun s hs => (hX7.out.below hBr.out).2 |> fun h2 => by
              have hs' := List.mem_of_mem_take hs
              rw [List.mem_reverse] at hs'
              obtain ⟨i, hi, e⟩ := List.getElem_of_mem hs'
              obtain ⟨x, -, -, hg⟩ := h2 i s (by rw [List.getElem?_eq_getElem hi, e])
              exact hg))
            have hlr : ls.reverse.take m = ls.reverse := List.take_of_length_le (by rw [List.length_reverse, hX7.out.1]; exact Nat.le_refl _)
            rw [hlr] at hXr
            have hB8 := Lib.hid (hB7.out.trans (hBr.out.mono hB7.out.size))
            have D4 := Lib.hid (fun w' (hb : Below Wo.heap.size Wo w') => (show Calls Try.prog 13 #[.slice (some ⟨gr, 0, none⟩) m cr] w' (fun e w2 => e = .returned (.bool P) ∧ Below w'.heap.size w' w2) from by rw [← hrev.out]; exact dead13_c _ m cr ls.reverse w' (hXr.out.below hb) (by omega)))
            have D5 := Lib.hid (fun w' => (show Calls Try.prog 13 #[.slice none 0 0] w' (fun e w2 => e = .returned (.bool true) ∧ Below w'.heap.size w' w2) from dead13_c none 0 0 [] w' ⟨rfl, fun i r hi => by simp at hi⟩ (by omega)))
            have hP := hall.out
            subst hP
            clear hall hrev hlr hOr hX7 hXr
            cases P1 <;> cases P2
            all_goals
              simp only [Bool.and_false, Bool.false_and, Bool.and_true, Bool.true_and] at D4 ⊢
              go_wp2_with (first | (go_at_call 13; (with_reducible refine (D4.out _ (Below.refl _ _)).mono ?_); rintro e w8 ⟨rfl, hb⟩; have hB9 := Lib.hid (hB8.out.trans (hb.mono hB8.out.size)); clear hb) | (go_at_call 13; (with_reducible refine (D5.out _).mono ?_); rintro e w9 ⟨rfl, hb⟩; have hBA := Lib.hid (hB9.out.trans (hb.mono hB9.out.size)); clear hb))
              go_ret
              exact ⟨rfl, hBA.out⟩
theorem wf_u8 {n : Int} (h : (Lit.int .u8 n).wf = true) : 0 ≤ n ∧ n ≤ 255 := by
  have e1 : IntKind.u8.min = 0 := by decide
  have e2 : IntKind.u8.max = 255 := by decide
  simp [Lit.wf] at h; omega
theorem walk (a0 : Option Addr) (n0 : Nat) (c0 : Nat) (f0 : Nat → Int) (a1 : Option Addr) (n1 : Nat) (c1 : Nat) (f1 : Nat → Int) (a2 : Option Addr) (n2 : Nat) (c2 : Nat) (f2 : Nat → Int) (a3 : Option Addr) (n3 : Nat) (c3 : Nat) (f3 : Nat → Int) (a4 : Int) (w : World) (w0 : ArgI .u8 w a0 n0 c0 f0) (w1 : ArgI .u8 w a1 n1 c1 f1) (w2 : ArgI .u8 w a2 n2 c2 f2) (w3 : ArgI .u8 w a3 n3 c3 f3) (w4 : (Lit.int .i64 a4).wf = true) :
    Calls Try.prog 4 #[.slice a0 n0 c0, .slice a1 n1 c1, .slice a2 n2 c2, .slice a3 n3 c3, .int .i64 a4] w fun e w' => e = .returned (.bool true) ∧ Below w.heap.size w w' := by
  by_cases h : n0 ≤ 4096 ∧ n1 ≤ 65536 ∧ n2 ≤ 65536 ∧ n3 ≤ 65536
  · obtain ⟨l0, l1, l2, l3⟩ := h
    exact main a0 n0 c0 f0 a1 n1 c1 f1 a2 n2 c2 f2 a3 n3 c3 f3 a4 w ⟨w0.row, fun i hi => wf_u8 (w0.wf i hi), by omega⟩ ⟨w1.row, fun i hi => wf_u8 (w1.wf i hi), by omega⟩ ⟨w2.row, fun i hi => wf_u8 (w2.wf i hi), by omega⟩ ⟨w3.row, fun i hi => wf_u8 (w3.wf i hi), by omega⟩ l0 l1 l2 l3
  · have le0 := w0.le; have le1 := w1.le; have le2 := w2.le; have le3 := w3.le; have mx0 := w0.max; have mx1 := w1.max; have mx2 := w2.max; have mx3 := w3.max
    have Z := Lib.hid (zz11_c a0 a1 a2 a3 n0 n1 n2 n3 c0 c1 c2 c3 a4 w (by omega) (by omega) (by omega) (by omega))
    unfold maxLen at mx0 mx1 mx2 mx3
    clear w0 w1 w2 w3 w4
    go_enter Try.func4, Try.ntmps4
    go_upto_region 3 with (go_at_call 11; (with_reducible refine Z.out.mono ?_); rintro e w' ⟨b, rfl, hbz, rfl⟩; replace hbz := Lib.hid hbz; cases b)
    any_goals (go_ret; exact ⟨rfl, Below.refl _ _⟩)
    have hs := hbz.out trivial
    go_upto_region 7 with fail
    all_goals (first | (go_ret; exact ⟨rfl, Below.refl _ _⟩) | (exfalso; omega))
theorem own : ownKnob Try.prog.godebug = none := by kernel_rfl
theorem laidOut : laidOutB Try.prog = true := by kernel_rfl
set_option maxRecDepth 100000 in
theorem lifted (os : Go.Os) (started : os.Started) (H : Type) (enc : TypeId × Value → H) :
    ReturnsInHanded {} Try.checked os 4 .any (Rows.fnAllSelectorsAreDeadSplitReverseSpec.pre6 enc Try.prog Try.f4 Rows.fnAllSelectorsAreDeadSplitReverseRow.domain false) (Rows.fnAllSelectorsAreDeadSplitReverseSpec.post enc Try.prog Try.f4 false true false false) := by
  refine returnsInHanded_of_change (C := Try.checked) own started (by kernel_rfl) Try.func4
    (ChangeSpec.witness6 (enc := enc) (C := Try.checked) false ⟨#[], #[.slice none 0 0, .slice none 0 0, .slice none 0 0, .slice none 0 0, .int .i64 0], []⟩ 8 (by kernel_rfl) (by kernel_rfl) (by kernel_rfl) (by kernel_rfl)) ?_
  intro W base args ds gs before hval0 hW hcnd _
  have hval : ∀ (j : Nat) t v, Try.f4.params[j]? = some t → args[j]? = some v → Value.okWide Try.prog W .any base t v := hval0
  have hW' := hW
  obtain ⟨p, q, hA0, hV, rfl, hfz, hnd⟩ := hW
  have hA : DataW.TrodAll enc Try.prog W 0 (fun _ => true) true Try.f4.params.toList args.toList ds p := hA0
  rw [Try.params4] at hA hval
  obtain ⟨v0, vs0, d0, ds0, p0, q0, hargs, rfl, rfl, h0, r0⟩ := trodAll_cons hA
  obtain ⟨v1, vs1, d1, ds1, p1, q1, rfl, rfl, rfl, h1, r1⟩ := trodAll_cons r0
  obtain ⟨v2, vs2, d2, ds2, p2, q2, rfl, rfl, rfl, h2, r2⟩ := trodAll_cons r1
  obtain ⟨v3, vs3, d3, ds3, p3, q3, rfl, rfl, rfl, h3, r3⟩ := trodAll_cons r2
  obtain ⟨v4, vs4, d4, ds4, p4, q4, rfl, rfl, rfl, h4, r4⟩ := trodAll_cons r3
  obtain ⟨rfl, rfl, rfl⟩ := trodAll_nil r4
  obtain rfl : args = #[v0, v1, v2, v3, v4] := by cases args; simp_all
  obtain ⟨rfl, rfl⟩ := trodVars_none hV
  have k0 := h0
  have lt0 : ∀ x ∈ p0, x.block < W.heap.size := by obtain ⟨m, hm⟩ := k0; exact DataW.trod_lt m _ _ _ hm
  obtain ⟨a0, n0, c0, f0, rfl, w0⟩ := arg_ints Try.underlying22 Try.underlying5 (by kernel_rfl) (hval 0 22 v0 rfl rfl) h0
  have k1 := h1
  have lt1 : ∀ x ∈ p1, x.block < W.heap.size := by obtain ⟨m, hm⟩ := k1; exact DataW.trod_lt m _ _ _ hm
  obtain ⟨a1, n1, c1, f1, rfl, w1⟩ := arg_ints Try.underlying22 Try.underlying5 (by kernel_rfl) (hval 1 22 v1 rfl rfl) h1
  have k2 := h2
  have lt2 : ∀ x ∈ p2, x.block < W.heap.size := by obtain ⟨m, hm⟩ := k2; exact DataW.trod_lt m _ _ _ hm
  obtain ⟨a2, n2, c2, f2, rfl, w2⟩ := arg_ints Try.underlying22 Try.underlying5 (by kernel_rfl) (hval 2 22 v2 rfl rfl) h2
  have k3 := h3
  have lt3 : ∀ x ∈ p3, x.block < W.heap.size := by obtain ⟨m, hm⟩ := k3; exact DataW.trod_lt m _ _ _ hm
  obtain ⟨a3, n3, c3, f3, rfl, w3⟩ := arg_ints Try.underlying22 Try.underlying5 (by kernel_rfl) (hval 3 22 v3 rfl rfl) h3
  obtain ⟨a4, rfl, rfl, rfl, w4⟩ := open_int Try.underlying3 (hval 4 3 v4 rfl rfl) h4
  clear hA0 hval0
  refine (walk a0 n0 c0 f0 a1 n1 c1 f1 a2 n2 c2 f2 a3 n3 c3 f3 a4 W w0 w1 w2 w3 w4).mono fun e W' ⟨he, bel⟩ => ?_
  subst he
  exact ⟨_, rfl, _, _, _, [], _, [], hW', trodAll_mk1 (shut_bool Try.underlying4 _), (trodAll_cons_mk (Below.trod laidOut (by kernel_rfl) (of_decide_eq_true (by kernel_rfl)) k0 bel lt0) (trodAll_cons_mk (Below.trod laidOut (by kernel_rfl) (of_decide_eq_true (by kernel_rfl)) k1 bel lt1) (trodAll_cons_mk (Below.trod laidOut (by kernel_rfl) (of_decide_eq_true (by kernel_rfl)) k2 bel lt2) (trodAll_cons_mk (Below.trod laidOut (by kernel_rfl) (of_decide_eq_true (by kernel_rfl)) k3 bel lt3) (trodAll_cons_mk (shut_int Try.underlying3 w4) trodAll_mk0))))), rfl, bel.frame _, fun h => by cases h⟩

theorem over : Rows.fnAllSelectorsAreDeadSplitReverseRow.holds Try.pinned (OpenSpec.ofChange Rows.fnAllSelectorsAreDeadSplitReverseSpec) :=
  OpenClaim.holds_of_wide 4 Try.f4 rfl rfl rfl rfl rfl rfl rfl ⟨rfl, rfl, rfl, rfl, rfl⟩ rfl rfl rfl rfl rfl (by kernel_rfl) Try.func4 (by kernel_rfl)
    (of_decide_eq_true (by kernel_rfl)) (by unfold Func.isWrapper; first | (rw [if_pos (by decide +kernel)]; kernel_rfl) | (rw [if_neg (by decide +kernel)]; exact ⟨rfl, rfl⟩))
    (fun os started H enc _ => lifted os started H enc)

theorem proved : Rows.FnAllSelectorsAreDeadSplitReverseSaid :=
  over
#print axioms proved
end Go.Proofs.Ytidmdcadejfjhaa.fnAllSelectorsAreDeadSplitReverse
