/- FnDeadRuleManglerFreshForgets: allSelectorsAreDead. -/
import Derived.Test.YtidmdcadejfjhaaDrh
set_option linter.unusedVariables false
set_option linter.unusedSimpArgs false
namespace Go.Proofs.Ytidmdcadejfjhaa
open Go.RowKit
set_option maxRecDepth 100000
set_option maxHeartbeats 4000000
def deadS : K1 → Bool
  | none => false
  | some (k, b) => !b && (k == 2 || k == 9)
def deadC (l : List K1) : Bool := l.any deadS
def deadX (l : List (List K1)) : Bool := l.any deadC
def deadR (l : List (List (List K1))) : Bool := l.all deadX
theorem any_take_succ {T : Type} (f : T → Bool) (l : List T) (k : Nat) (x : T) (h : l[k]? = some x) : (l.take (k + 1)).any f = ((l.take k).any f || f x) := by
  rw [List.take_add_one, h]; simp
theorem any_of_get {T : Type} (f : T → Bool) (l : List T) (k : Nat) (x : T) (h : l[k]? = some x) (hx : f x = true) : l.any f = true := List.any_eq_true.2 ⟨x, List.mem_of_getElem? h, hx⟩
theorem all_take_succ {T : Type} (f : T → Bool) (l : List T) (k : Nat) (x : T) (h : l[k]? = some x) : (l.take (k + 1)).all f = ((l.take k).all f && f x) := by
  rw [List.take_add_one, h]; simp
theorem inK_len {ls : List (CxR Unit)} {b : Bool} (h : ls.map CxR.key = inK b) : ls.length = if b then 1 else 0 := by
  have := congrArg List.length h
  rw [List.length_map] at this
  rw [this]
  cases b <;> rfl
theorem dead19_c (O : Nat → Prop) (r : CxR K1) (w : World) (h : GCx G1 O w r) : Calls Try.prog 19 #[.slice r.a r.ls.length r.c] w (RetV (.bool (deadX r.key)) w) := by
  obtain ⟨a, c, ls⟩ := r
  obtain ⟨hRC, hl⟩ := h
  simp only at hRC hl
  have HT : Hid (∀ W k (cp : CpR K1), ls[k]? = some cp → deadC cp.key = true → Below w.heap.size w W → RetV (.bool (deadX (CxR.key ⟨a, c, ls⟩))) w (.returned (.bool true)) W) := Lib.hid (fun W k cp h1 h2 hb => ⟨by
    rw [show deadX (CxR.key ⟨a, c, ls⟩) = true from any_of_get deadC _ k cp.key (by rw [CxR.key, List.getElem?_map, h1]; rfl) h2], hb⟩)
  have HF : Hid (∀ W k, k = ls.length → (ls.take k).any (fun r => deadC r.key) = false → Below w.heap.size w W → RetV (.bool (deadX (CxR.key ⟨a, c, ls⟩))) w (.returned (.bool false)) W) := Lib.hid (fun W k e h2 hb => ⟨by
    rw [show deadX (CxR.key ⟨a, c, ls⟩) = false from by
      rw [List.take_of_length_le (by omega)] at h2
      show (ls.map CpR.key).any deadC = false
      rw [List.any_map]; exact h2], hb⟩)
  show Calls Try.prog 19 #[.slice a ls.length c] w _
  generalize RetV (.bool (deadX (CxR.key ⟨a, c, ls⟩))) w = QQ at *
  obtain ⟨n, hn⟩ : ∃ m, ls.length = m := ⟨_, rfl⟩
  rw [hn] at hl ⊢
  unfold maxLen at hl
  replace hn := Lib.hid hn
  replace hRC := Lib.hid hRC
  go_enter Try.func19, Try.ntmps19
  go_wp2
  go_loopw [11] (fun i wr => ∃ k : Nat, k ≤ n ∧ i = .int .i64 k ∧ (ls.take k).any (fun r => deadC r.key) = false ∧ Below w.heap.size w wr) (fun i _ => n - (intOf i).toNat)
  case atStart => exact ⟨0, by omega, rfl, by simp, Below.refl _ _⟩
  case round =>
    obtain ⟨k, hk, rfl, hd, hB⟩ := hrel
    obtain ⟨Wo, rfl⟩ : ∃ y, y = wr := ⟨_, rfl⟩
    replace hB := Lib.hid hB
    replace hd := Lib.hid hd
    by_cases hlt : k < n
    · obtain ⟨cp, hcp⟩ : ∃ x, ls[k]? = some x := ⟨_, List.getElem?_eq_getElem (by rw [hn.out]; exact hlt)⟩
      obtain ⟨g, rfl, -, hs, hg⟩ := (RCp.keep G1.keep hRC.out (Kc.of_below hB.out) (fun _ _ q => q)) k cp hcp
      have hT := Lib.hid (fun W (e : deadC cp.key = true) (hb : Below w.heap.size w W) => HT.out W k cp hcp e hb)
      have hnx := Lib.hid (fun (e : deadC cp.key = false) => show (ls.take (k + 1)).any (fun r => deadC r.key) = false by rw [any_take_succ _ ls k _ hcp, hd.out, e]; rfl)
      clear hcp
      obtain ⟨pa, pc, ss⟩ := cp
      obtain ⟨hRS, hm1⟩ := hg
      simp only at hRS hm1
      obtain ⟨d0, d1, d2, d3, d4, d5⟩ := segs6 hs
      obtain ⟨m, hm⟩ : ∃ m, ss.length = m := ⟨_, rfl⟩
      simp only [hm] at d1 hm1
      unfold maxLen at hm1
      replace hm := Lib.hid hm
      replace hRS := Lib.hid hRS
      clear hs
      have i0 : (0 : Int) ≤ k := by omega
      have i1 : (k : Int) < n := by omega
      go_upto_region 4 with fail
      refine wp_gen (fun W1 hW => ?_)
      have b1 : Hid (Below Wo.heap.size Wo W1) := Lib.hid (by rw [hW]; exact ba _ _)
      have sv := Seg.new Wo [.pointer none, .slice pa m pc, .slice none 0 0, .int .i32 0, .int .u8 0, .bool false] 84
      have sv1 : Seg W1 Wo.heap.size 0 [.pointer none, .slice pa m pc, .slice none 0 0, .int .i32 0, .int .u8 0, .bool false] := by rw [hW]; exact sv
      clear hW sv d0 d1 d2 d3 d4 d5
      have d1 := sv1 1 _ rfl
      simp only [Nat.zero_add] at d1
      clear sv1
      replace hRS := Lib.hid (RSub.keep G1.keep hRS.out (Kc.of_below b1.out) (fun _ _ q => q))
      have bw1 := Lib.hid (hB.out.trans (b1.out.mono hB.out.size))
      go_wp2
      go_loopw [18] (fun i wr => ∃ k : Nat, k ≤ m ∧ i = .int .i64 k ∧ (ss.take k).any (fun r => deadS r.k) = false ∧ Below W1.heap.size W1 wr) (fun i _ => m - (intOf i).toNat)
      case atStart => exact ⟨0, by omega, rfl, by simp, Below.refl _ _⟩
      case round =>
        obtain ⟨j, hj, rfl, hd2, hBj⟩ := hrel
        obtain ⟨W2, rfl⟩ : ∃ y, y = wr := ⟨_, rfl⟩
        replace hBj := Lib.hid hBj
        replace hd2 := Lib.hid hd2
        by_cases hltj : j < m
        · obtain ⟨s, hsq⟩ : ∃ x, ss[j]? = some x := ⟨_, List.getElem?_eq_getElem (by rw [hm.out]; exact hltj)⟩
          obtain ⟨g2, rfl, -, hs, hg⟩ := (RSub.keep G1.keep hRS.out (Kc.of_below hBj.out) (fun _ _ q => q)) j s hsq
          have hT2 := Lib.hid (fun W (e : deadS s.k = true) (hb : Below w.heap.size w W) => hT.out W (show deadC (ss.map SubR.k) = true from any_of_get deadS _ j s.k (by rw [List.getElem?_map, hsq]; rfl) e) hb)
          have hn2 := Lib.hid (fun (e : deadS s.k = false) => show (ss.take (j + 1)).any (fun r => deadS r.k) = false by rw [any_take_succ _ ss j _ hsq, hd2.out, e]; rfl)
          clear hsq
          obtain ⟨st, sp, sk⟩ := s
          obtain ⟨e0, e1, e2⟩ := segs3 hs
          clear hs
          simp only at hT2 hn2
          have q0 : (0 : Int) ≤ j := by omega
          have q1 : (j : Int) < m := by omega
          go_upto_region 7 with fail
          refine wp_gen (fun W3 hW => ?_)
          have b3 : Hid (Below W2.heap.size W2 W3) := Lib.hid (by rw [hW]; exact ba _ _)
          have n1 : W3.cell? ⟨W2.heap.size, 0, none⟩ = some (.iface st sp) := by rw [hW]; simp [go_sem]
          clear hW e0 e1 e2
          have bm3 := Lib.hid (hBj.out.trans (b3.out.mono hBj.out.size))
          have bw3 := Lib.hid (bw1.out.trans (bm3.out.mono bw1.out.size))
          have hg3 := G1.keep _ _ _ _ _ hg (Kc.of_below b3.out) (fun _ _ q => q)
          clear hg
          rcases hg3 with ⟨h1, h2, -⟩ | ⟨kk, b, B, ia, ic, li, h1, h2, h3, -, hs, hr, hl2, hk2, -⟩
          · simp only at h1 h2
            subst h1 h2
            have ta := ta97_106
            have hnx2 := Lib.hid (hn2.out rfl)
            go_wp2
            exact ⟨⟨j + 1, by omega, by go_num, hnx2.out, bm3.out⟩, by simp [intOf]; omega⟩
          · simp only at h1 h2 h3
            subst h1 h2 h3
            have ta := ta97_97
            have e0 := hs 0 _ rfl; have e3 := hs 3 _ rfl
            simp only [Nat.zero_add] at e0 e3
            rw [inK_len hk2] at e0
            clear hs hr hl2 hk2
            cases b
            · simp only [Bool.false_eq_true, ↓reduceIte] at e0
              by_cases c2 : kk = 2
              · subst c2
                have hF := Lib.hid (hT2.out W3 rfl bw3.out)
                clear hT2 hn2
                go_wp2
                exact hF.out
              · by_cases c9 : kk = 9
                · subst c9
                  have hF := Lib.hid (hT2.out W3 rfl bw3.out)
                  clear hT2 hn2
                  go_wp2
                  exact hF.out
                · have hnx2 := Lib.hid (hn2.out (by simp [deadS, c2, c9]))
                  have t2 : ((kk : Int) == 2) = false := by simp; omega
                  have t9 : ((kk : Int) == 9) = false := by simp; omega
                  clear hT2 hn2 c2 c9
                  go_wp2
                  exact ⟨⟨j + 1, by omega, by go_num, hnx2.out, bm3.out⟩, by simp [intOf]; omega⟩
            · simp only [↓reduceIte] at e0
              have hnx2 := Lib.hid (hn2.out rfl)
              clear hT2 hn2
              go_wp2
              exact ⟨⟨j + 1, by omega, by go_num, hnx2.out, bm3.out⟩, by simp [intOf]; omega⟩
        · obtain rfl : j = m := by omega
          have hnx2 := Lib.hid (hnx.out (by
            have := hd2.out
            rw [List.take_of_length_le (by rw [hm.out]; exact Nat.le_refl _)] at this
            show (ss.map SubR.k).any deadS = false
            rw [List.any_map]; exact this))
          have bm4 := Lib.hid (bw1.out.trans (hBj.out.mono bw1.out.size))
          obtain ⟨v6, hv6⟩ : ∃ y : Int, (j : Int) = y := ⟨_, rfl⟩
          rw [hv6]
          have hv7 : ¬ v6 < v6 := by omega
          clear hv6
          go_wp2
          exact ⟨⟨k + 1, by omega, by go_num, hnx2.out, bm4.out⟩, by simp [intOf]; omega⟩
    · obtain rfl : k = n := by omega
      have hF := HF.out Wo k hn.out.symm hd.out hB.out
      go_wp2
      exact hF
theorem dead16_c (O : Nat → Prop) (a : Option Addr) (c : Nat) (ls : List (CxR K1)) (n : Nat) (hn : ls.length = n) (w : World) (h : RCx G1 O w a ls) (hl : n ≤ maxLen) : Calls Try.prog 16 #[.slice a n c] w (RetV (.bool (deadR (ls.map CxR.key))) w) := by
  have HF : Hid (∀ W k (cp : CxR K1), ls[k]? = some cp → deadX cp.key = false → Below w.heap.size w W → RetV (.bool (deadR (ls.map CxR.key))) w (.returned (.bool false)) W) := Lib.hid (fun W k cp h1 h2 hb => ⟨by
    rw [show deadR (ls.map CxR.key) = false from by
      rw [deadR, List.all_eq_false]
      exact ⟨cp.key, List.mem_map.2 ⟨cp, List.mem_of_getElem? h1, rfl⟩, by rw [h2]; decide⟩], hb⟩)
  have HT : Hid (∀ W k, k = ls.length → (ls.take k).all (fun r => deadX r.key) = true → Below w.heap.size w W → RetV (.bool (deadR (ls.map CxR.key))) w (.returned (.bool true)) W) := Lib.hid (fun W k e h2 hb => ⟨by
    rw [show deadR (ls.map CxR.key) = true from by
      rw [List.take_of_length_le (by omega)] at h2
      rw [deadR, List.all_map]; exact h2], hb⟩)
  generalize RetV (.bool (deadR (ls.map CxR.key))) w = QQ at *
  unfold maxLen at hl
  replace hn := Lib.hid hn
  replace h := Lib.hid h
  go_enter Try.func16, Try.ntmps16
  go_wp2
  go_loopw [7] (fun i wr => ∃ k : Nat, k ≤ n ∧ i = .int .i64 k ∧ (ls.take k).all (fun r => deadX r.key) = true ∧ Below w.heap.size w wr) (fun i _ => n - (intOf i).toNat)
  case atStart => exact ⟨0, by omega, rfl, by simp, Below.refl _ _⟩
  case round =>
    obtain ⟨k, hk, rfl, hd, hB⟩ := hrel
    obtain ⟨Wo, rfl⟩ : ∃ y, y = wr := ⟨_, rfl⟩
    replace hB := Lib.hid hB
    replace hd := Lib.hid hd
    by_cases hlt : k < n
    · obtain ⟨cx, hcx⟩ : ∃ x, ls[k]? = some x := ⟨_, List.getElem?_eq_getElem (by rw [hn.out]; exact hlt)⟩
      obtain ⟨g, rfl, -, d0, hg⟩ := (RCx.keep G1.keep h.out (Kc.of_below hB.out) (fun _ _ q => q)) k cx hcx
      have hF := Lib.hid (fun W (e : deadX cx.key = false) (hb : Below w.heap.size w W) => HF.out W k cx hcx e hb)
      have hnx := Lib.hid (fun (e : deadX cx.key = true) => show (ls.take (k + 1)).all (fun r => deadX r.key) = true by rw [all_take_succ _ ls k _ hcx, hd.out, e]; rfl)
      replace hg := Lib.hid hg
      clear hcx
      have i0 : (0 : Int) ≤ k := by omega
      have i1 : (k : Int) < n := by omega
      go_upto_region 4 with fail
      refine wp_gen (fun W hW => ?_)
      have b1 : Hid (Below Wo.heap.size Wo W) := Lib.hid (by rw [hW]; exact ba _ _)
      have e0 : W.cell? ⟨Wo.heap.size, 0, none⟩ = some (.slice cx.a cx.ls.length cx.c) := by rw [hW]; simp [go_sem]
      clear hW d0
      have bw1 := Lib.hid (hB.out.trans (b1.out.mono hB.out.size))
      have C := Lib.hid (dead19_c O cx W (GCx.keep G1.keep _ _ _ _ _ hg.out (Kc.of_below b1.out) (fun _ _ q => q)))
      cases hd1 : deadX cx.key
      · rw [hd1] at C
        have hF2 := Lib.hid (fun W => hF.out W hd1)
        clear hd1
        go_wp2_with (go_at_call 19; (with_reducible refine C.out.mono ?_); rintro e w2 ⟨rfl, hb⟩; replace hb := Lib.hid hb)
        exact hF2.out _ (bw1.out.trans (hb.out.mono bw1.out.size))
      · rw [hd1] at C
        have hn2 := Lib.hid (hnx.out hd1)
        clear hd1
        go_wp2_with (go_at_call 19; (with_reducible refine C.out.mono ?_); rintro e w2 ⟨rfl, hb⟩; replace hb := Lib.hid hb)
        exact ⟨⟨k + 1, by omega, by go_num, hn2.out, bw1.out.trans (hb.out.mono bw1.out.size)⟩, by simp [intOf]; omega⟩
    · obtain rfl : k = n := by omega
      have hT := HT.out Wo k hn.out.symm hd.out hB.out
      go_wp2
      exact hT
end Go.Proofs.Ytidmdcadejfjhaa
