/- FnSubstituteAmpersandsClosedForm: the premise, the lengths' bounds. -/
import Derived.Test.YtjigljpodkfchaaFmtSun
import Derived.Laws.BitsLemmas
set_option linter.unusedVariables false
set_option linter.unusedSimpArgs false
namespace Go.Proofs.YtjigljpodkfchaaFmt
open Go.RowKit
set_option maxRecDepth 100000
set_option maxHeartbeats 4000000
theorem wr64 {x : Int} (h0 : 0 ≤ x) (h1 : x ≤ 1099511627776) : wrap64 x = x := by unfold wrap64; omega
theorem wk64 {x : Int} (h0 : 0 ≤ x) (h1 : x ≤ 1099511627776) : IntKind.i64.wrap x = x := by rw [IntKind.wrap_i64]; omega
def NoAmp (gs : List (List Cm)) : Prop := ∀ g ∈ gs, ∀ c ∈ g, c.am = 0
def rlen (gs : List (List Cm)) : Nat := match gs with | [[c]] => c.nm.length | _ => 1
def PremF (c0 : Cm) (gs : List (List Cm)) : Prop := NoAmp gs ∧ (gs.length = 1 → ∀ g ∈ gs, g.length = 1) ∧ (gs.length ≠ 1 → ∀ g ∈ gs, g ≠ []) ∧ c0.am * rlen gs ≤ 65536
theorem all_of {T : Type} {l : List T} {Q : T → Prop} (h : ∀ i' x, i' < l.length → l[i']? = some x → Q x) : ∀ x ∈ l, Q x := fun x hx => by
  obtain ⟨i, hi⟩ := List.getElem?_of_mem hx
  exact h i x (List.getElem?_eq_some_iff.1 hi).1 hi
theorem noAmps18_c (gs : List (List Cm)) (n : Nat) (hn : gs.length = n) (hn2 : n ≤ 1048576) (hin : ∀ g ∈ gs, g.length ≤ 1048576) (a : Option Addr) (cc : Nat) (w : World) (h : RX w a gs) : Calls Tryf.prog 18 #[.slice a n cc] w (fun e w' => ∃ b, e = .returned (.bool b) ∧ w = w' ∧ (b = true → NoAmp gs)) := by
  replace h := Lib.hid h
  replace hn := Lib.hid hn
  replace hin := Lib.hid hin
  have hno : Hid (∀ W, w = W → ∃ b, Ending.returned (.bool false) = .returned (.bool b) ∧ w = W ∧ (b = true → NoAmp gs)) := Lib.hid (fun W h => ⟨false, rfl, h, fun q => by cases q⟩)
  go_enter Tryf.func18, Tryf.ntmps18
  go_wp2
  go_loopw [3] (fun v wr => ∃ i, i ≤ n ∧ v = .int .i64 i ∧ (∀ i' x, i' < i → gs[i']? = some x → ∀ c ∈ x, c.am = 0) ∧ w = wr) (fun v _ => n - (intOf v).toNat)
  case atStart => exact ⟨0, by omega, rfl, fun _ _ q => by omega, rfl⟩
  case round =>
    obtain ⟨i, hi, rfl, hAll, rfl⟩ := hrel
    replace hAll := Lib.hid hAll
    by_cases hlt : i < n
    · obtain ⟨g, hg⟩ : ∃ g, gs[i]? = some g := ⟨_, List.getElem?_eq_getElem (by rw [hn.out]; exact hlt)⟩
      obtain ⟨b, o, a', c', rfl, hc, hRM, -⟩ := h.out i g hg
      have hgm := hin.out g (List.mem_of_getElem? hg)
      replace hg := Lib.hid hg
      replace hRM := Lib.hid hRM
      obtain ⟨m, hm⟩ : ∃ y, g.length = y := ⟨_, rfl⟩
      rw [hm] at hc hgm
      replace hm := Lib.hid hm
      have i0 : (0 : Int) ≤ i := by omega
      have i1 : (i : Int) < n := by omega
      go_wp2
      go_loopw [4] (fun v wr => ∃ j, j ≤ m ∧ v = .int .i64 j ∧ (∀ j' x, j' < j → g[j']? = some x → x.am = 0) ∧ w = wr) (fun v _ => m - (intOf v).toNat)
      case atStart => exact ⟨0, by omega, rfl, fun _ _ q => by omega, rfl⟩
      case round =>
        obtain ⟨j, hj, rfl, hAllj, rfl⟩ := hrel
        replace hAllj := Lib.hid hAllj
        by_cases hltj : j < m
        · obtain ⟨c, hcq⟩ : ∃ c, g[j]? = some c := ⟨_, List.getElem?_eq_getElem (by rw [hm.out]; exact hltj)⟩
          obtain ⟨b2, o2, a2, c2, rfl, hs, -, -, -⟩ := hRM.out j c hcq
          replace hcq := Lib.hid hcq
          obtain ⟨d0, d1, d2⟩ := segs3 hs
          obtain ⟨am, ham⟩ : ∃ y : Int, (c.am : Int) = y := ⟨_, rfl⟩
          rw [ham] at d1
          replace ham := Lib.hid ham
          have j0 : (0 : Int) ≤ j := by omega
          have j1 : (j : Int) < m := by omega
          clear hs d0 d2
          by_cases h0 : am = 0
          · have hne : (am != 0) = false := by simp [h0]
            go_wp2
            go_roundw
            case rel => exact ⟨j + 1, by omega, by go_num, fun j' x q hx => by
              by_cases e : j' = j
              · subst e; rw [hcq.out] at hx; cases hx; have := ham.out; omega
              · exact hAllj.out j' x (by omega) hx, by first | rfl | trivial⟩
            case measure => simp [intOf]; omega
          · have hne : (am != 0) = true := by simp [h0]
            go_wp2
            go_ret
            exact hno.out _ rfl
        · obtain rfl : j = m := by omega
          go_wp2
          go_roundw
          case rel => exact ⟨i + 1, by omega, by go_num, fun i' x q hx => by
            by_cases e : i' = i
            · subst e; rw [hg.out] at hx; cases hx
              exact all_of (fun j' y hj' hy => hAllj.out j' y (by rw [← hm.out]; exact hj') hy)
            · exact hAll.out i' x (by omega) hx, by first | rfl | trivial⟩
          case measure => simp [intOf]; omega
    · obtain rfl : i = n := by omega
      go_wp2
      go_ret
      exact ⟨true, rfl, rfl, fun _ => all_of (fun i' y hi' hy => hAll.out i' y (by rw [← hn.out]; exact hi') hy)⟩
theorem repLen19_c (gs : List (List Cm)) (n : Nat) (hn : gs.length = n) (hn2 : n ≤ 1048576) (h1 : n = 1 → ∀ g ∈ gs, g.length = 1) (a : Option Addr) (cc : Nat) (w : World) (h : RX w a gs) : Calls Tryf.prog 19 #[.slice a n cc] w (RetV (.int .i64 (rlen gs)) w) := by
  by_cases hn1 : n = 1
  · subst hn1
    obtain ⟨g, rfl⟩ := List.length_eq_one_iff.1 hn
    obtain ⟨c, rfl⟩ := List.length_eq_one_iff.1 (h1 rfl g (List.mem_cons_self ..))
    obtain ⟨b, o, a', c', rfl, hc, hRM, -⟩ := h 0 _ rfl
    obtain ⟨b2, o2, a2, c2, rfl, hs, -, -, -⟩ := hRM 0 c rfl
    obtain ⟨d0, d1, d2⟩ := segs3 hs
    have hc' : w.cell? ⟨b, o, none⟩ = some (.slice (some ⟨b2, o2, none⟩) 1 c') := hc
    rw [Nat.zero_mul, Nat.add_zero] at d2
    clear hc hs hRM d0 d1 h h1
    show Calls Tryf.prog 19 #[.slice (some ⟨b, o, none⟩) 1 cc] w (RetV (.int .i64 (c.nm.length : Nat)) w)
    obtain ⟨z, hz⟩ : ∃ y, c.nm.length = y := ⟨_, rfl⟩
    rw [hz] at d2 ⊢
    clear hz
    go_enter Tryf.func19, Tryf.ntmps19
    go_wp2
    go_ret
    exact ⟨rfl, Below.refl _ _⟩
  · have hr : rlen gs = 1 := by
      unfold rlen
      split
      · exact absurd hn.symm hn1
      · rfl
    rw [hr]
    have hni : ((n : Int) == 1) = false := by simp; omega
    clear h h1 hn hr
    go_enter Tryf.func19, Tryf.ntmps19
    go_wp2
    go_ret
    exact ⟨rfl, Below.refl _ _⟩
theorem rlen_le {gs : List (List Cm)} (h : ∀ g ∈ gs, ∀ c ∈ g, c.nm.length ≤ 1048576) : rlen gs ≤ 1048576 := by
  unfold rlen
  split
  · rename_i c
    exact h [c] (List.mem_cons_self ..) c (List.mem_cons_self ..)
  · omega
def PremP (c0 : Cm) (gs : List (List Cm)) (w : World) (e : Ending) (w' : World) : Prop := ∃ b, e = .returned (.bool b) ∧ Below w.heap.size w w' ∧ (b = true → PremF c0 gs)
theorem prem6_c (c0 : Cm) (ham : c0.am ≤ 255) (nv : Value) (gs : List (List Cm)) (n : Nat) (hn : gs.length = n) (hn2 : n ≤ 1048576) (hin : ∀ g ∈ gs, g.length ≤ 1048576 ∧ ∀ c ∈ g, c.nm.length ≤ 1048576) (a : Option Addr) (cc : Nat) (w : World) (h : RX w a gs) (na : Option Addr) (nl nc : Nat) : Calls Tryf.prog 6 #[.agg #[.int .u8 c0.cb, .int .u8 c0.am, .slice na nl nc], .slice a n cc] w (PremP c0 gs w) := by
  have C18 := Lib.hid (fun W (hb : Below w.heap.size w W) => noAmps18_c gs n hn hn2 (fun g hg => (hin g hg).1) a cc W (h.after hb))
  have C19 := Lib.hid (fun (h1 : n = 1 → ∀ g ∈ gs, g.length = 1) W (hb : Below w.heap.size w W) => repLen19_c gs n hn hn2 h1 a cc W (h.after hb))
  have hrl : rlen gs ≤ 1048576 := rlen_le (fun g hg => (hin g hg).2)
  have hno : Hid (∀ W, Below w.heap.size w W → PremP c0 gs w (.returned (.bool false)) W) := Lib.hid (fun W h => ⟨false, rfl, h, fun q => by cases q⟩)
  have hyes : Hid (∀ b W, Below w.heap.size w W → NoAmp gs → (n = 1 → ∀ g ∈ gs, g.length = 1) → (n ≠ 1 → ∀ g ∈ gs, g ≠ []) → (b = decide ((c0.am : Int) * (rlen gs : Int) ≤ 65536)) → PremP c0 gs w (.returned (.bool b)) W) := Lib.hid (fun b W h1 h2 h3 h4 h5 => ⟨b, rfl, h1, fun q => ⟨h2, by rw [hn]; exact h3, by rw [hn]; exact h4, by
    subst h5
    have h6 := of_decide_eq_true q
    have h7 : ((c0.am * rlen gs : Nat) : Int) ≤ 65536 := by rw [Int.natCast_mul]; exact h6
    omega⟩⟩)
  replace h := Lib.hid h
  replace hn := Lib.hid hn
  replace hin := Lib.hid hin
  obtain ⟨rl, hrle⟩ : ∃ y, rlen gs = y := ⟨_, rfl⟩
  rw [hrle] at hrl hyes
  simp only [hrle] at C19
  clear hrle
  obtain ⟨am, hame⟩ : ∃ y, c0.am = y := ⟨_, rfl⟩
  rw [hame] at ham hyes ⊢
  clear hame
  have hmul : am * rl ≤ 255 * 1048576 := Nat.mul_le_mul ham hrl
  have ew : Hid (IntKind.i64.wrap (IntKind.i64.wrap (am : Int) * (rl : Int)) = (am : Int) * (rl : Int)) := Lib.hid (by
    have h7 : (am : Int) * (rl : Int) = ((am * rl : Nat) : Int) := by rw [Int.natCast_mul]
    rw [wk64 (x := (am : Int)) (by omega) (by omega), h7]
    exact wk64 (by omega) (by omega))
  clear hmul
  generalize PremP c0 gs w = QQ at *
  go_enter Tryf.func6, Tryf.ntmps6
  go_upto_region 1 with fail
  refine wp_gen (fun W hW => ?_)
  have bW : Hid (Below w.heap.size w W) := Lib.hid (by rw [hW]; exact ba _ _)
  have e1 : W.cell? ⟨w.heap.size, 1, none⟩ = some (.int .u8 am) := by rw [hW]; simp [go_sem]
  clear hW
  go_upto_if 8 with (go_at_call 18; (with_reducible refine (C18.out _ bW.out).mono ?_); rintro e w5 ⟨b18, rfl, rfl, hb18⟩; replace hb18 := Lib.hid hb18)
  cases b18
  · go_wp2
    exact hno.out _ bW.out
  have hNA := Lib.hid (hb18.out rfl)
  clear hb18
  by_cases hn1 : n = 1
  · subst hn1
    obtain ⟨g, rfl⟩ := List.length_eq_one_iff.1 hn.out
    obtain ⟨b, o, a', c', rfl, hc, -, -⟩ := (h.out.after bW.out) 0 _ rfl
    have hg1 := (hin.out g (List.mem_cons_self ..)).1
    obtain ⟨m, hm⟩ : ∃ y, g.length = y := ⟨_, rfl⟩
    rw [hm] at hc hg1
    have hc' : W.cell? ⟨b, o, none⟩ = some (.slice a' m c') := hc
    clear hc
    by_cases hm1 : m = 1
    · subst hm1
      have h1 : Hid (∀ g' ∈ [g], g'.length = 1) := Lib.hid (fun g' hg' => by rw [List.mem_singleton] at hg'; rw [hg']; exact hm)
      have CE : Hid (∀ d os, Calls Tryf.prog 19 #[.slice (some ⟨b, o, none⟩) 1 cc] (Sort.grow (redrawn W d) os) (RetV (.int .i64 (rl : Nat)) (Sort.grow (redrawn W d) os))) := Lib.hid (fun d os => C19.out (fun _ => h1.out) _ (bW.out.trans ((below_regrown W d os).mono bW.out.size)))
      replace hm := Lib.hid hm
      have x0 := fun d os => cell_regrown e1 d os
      go_upto_region 11 with fail
      refine drawn_tail 7 (by kernel_rfl) (by kernel_rfl) (by kernel_rfl) (fun Q hQ => ?_)
      simp only [List.take_succ_cons, List.take_zero, List.drop_succ_cons, List.drop_zero]
      repeat (quiet_step (exact Calls.regrown_of (CE.out _ _)))
      refine wpQuiet_nil ?_
      intro W6 hw
      have b6 : Hid (Below W.heap.size W W6) := Lib.hid (by
        obtain ⟨⟨d, os⟩, rfl⟩ := hw
        exact below_regrown _ d os)
      clear hw x0
      have bw6 := Lib.hid (bW.out.trans (b6.out.mono bW.out.size))
      go_wp2
      exact hyes.out _ _ bw6.out hNA.out (fun _ => h1.out) (fun q => absurd rfl q) (by rw [ew.out])
    · have hmi : ((m : Int) != 1) = true := by simp; omega
      replace hm := Lib.hid hm
      go_wp2
      exact hno.out _ bW.out
  · have hni : ((n : Int) == 1) = false := by simp; omega
    go_wp2
    go_loopw [5] (fun v wr => ∃ i, i ≤ n ∧ v = .int .i64 i ∧ (∀ i' x, i' < i → gs[i']? = some x → x ≠ []) ∧ W = wr) (fun v _ => n - (intOf v).toNat)
    case atStart => exact ⟨0, by omega, rfl, fun _ _ q => by omega, rfl⟩
    case round =>
      obtain ⟨i, hi, rfl, hAll, rfl⟩ := hrel
      replace hAll := Lib.hid hAll
      by_cases hlt : i < n
      · obtain ⟨g, hg⟩ : ∃ g, gs[i]? = some g := ⟨_, List.getElem?_eq_getElem (by rw [hn.out]; exact hlt)⟩
        obtain ⟨b, o, a', c', rfl, hc, -, -⟩ := (h.out.after bW.out) i g hg
        have hgm := (hin.out g (List.mem_of_getElem? hg)).1
        replace hg := Lib.hid hg
        obtain ⟨m, hm⟩ : ∃ y, g.length = y := ⟨_, rfl⟩
        rw [hm] at hc hgm
        replace hm := Lib.hid hm
        have i0 : (0 : Int) ≤ i := by omega
        have i1 : (i : Int) < n := by omega
        by_cases h0 : m = 0
        · have hmi : ((m : Int) == 0) = true := by simp [h0]
          go_wp2
          exact hno.out _ bW.out
        · have hmi : ((m : Int) == 0) = false := by simp; omega
          go_wp2
          go_roundw
          case rel => exact ⟨i + 1, by omega, by go_num, fun i' x q hx => by
            by_cases e : i' = i
            · subst e; rw [hg.out] at hx; cases hx; intro q; have := hm.out; rw [q] at this; simp at this; omega
            · exact hAll.out i' x (by omega) hx, by first | rfl | trivial⟩
          case measure => simp [intOf]; omega
      · obtain rfl : i = n := by omega
        have hA2 := Lib.hid (all_of (fun j' y hj' hy => hAll.out j' y (by rw [← hn.out]; exact hj') hy))
        have CE : Hid (∀ d os, Calls Tryf.prog 19 #[.slice a i cc] (Sort.grow (redrawn W d) os) (RetV (.int .i64 (rl : Nat)) (Sort.grow (redrawn W d) os))) := Lib.hid (fun d os => C19.out (fun q => absurd q hn1) _ (bW.out.trans ((below_regrown W d os).mono bW.out.size)))
        have x0 := fun d os => cell_regrown e1 d os
        go_upto_region 11 with fail
        refine drawn_tail 7 (by kernel_rfl) (by kernel_rfl) (by kernel_rfl) (fun Q hQ => ?_)
        simp only [List.take_succ_cons, List.take_zero, List.drop_succ_cons, List.drop_zero]
        repeat (quiet_step (exact Calls.regrown_of (CE.out _ _)))
        refine wpQuiet_nil ?_
        intro W6 hw
        have b6 : Hid (Below W.heap.size W W6) := Lib.hid (by
          obtain ⟨⟨d, os⟩, rfl⟩ := hw
          exact below_regrown _ d os)
        clear hw x0
        have bw6 := Lib.hid (bW.out.trans (b6.out.mono bW.out.size))
        go_wp2
        exact hyes.out _ _ bw6.out hNA.out (fun q => absurd q hn1) (fun _ => hA2.out) (by rw [ew.out])
def Bc (r : List Cm) : Prop := r.length ≤ 1048576 ∧ ∀ c ∈ r, c.nm.length ≤ 1048576
def BytF (c0 : Cm) (gs : List (List Cm)) (cs : List Cm) : Prop := c0.nm.length ≤ 1048576 ∧ gs.length ≤ 1048576 ∧ (∀ g ∈ gs, Bc g) ∧ Bc cs
def BytP (c0 : Cm) (gs : List (List Cm)) (cs : List Cm) (w : World) (e : Ending) (w' : World) : Prop := ∃ b, e = .returned (.bool b) ∧ Below w.heap.size w w' ∧ (b = true → BytF c0 gs cs)
def LpK (w : World) (n : Nat) (u v : Value) (wr : World) : Prop := ∃ (k : Nat) (z : Int), k ≤ n ∧ u = .int .i64 z ∧ v = .int .i64 k ∧ 0 ≤ z ∧ z ≤ 1048576 ∧ w = wr
/-- .. and what was seen so far is fine -/
def LpB {T : Type} (w : World) (gs : List T) (Q : T → Prop) (u v : Value) (wr : World) : Prop := ∃ (i : Nat) (z : Int), i ≤ gs.length ∧ u = .int .i64 z ∧ v = .int .i64 i ∧ 0 ≤ z ∧ z ≤ 1048576 ∧ (∀ i' x, i' < i → gs[i']? = some x → Q x) ∧ w = wr
theorem bytes4_c (c0 : Cm) (n : Nat) (na : Option Addr) (nc : Nat) (hn : c0.nm.length = n) (gs : List (List Cm)) (n1 : Nat) (hg : gs.length = n1) (ga : Option Addr) (gc : Nat) (cs : List Cm) (n2 : Nat) (hc : cs.length = n2) (a : Option Addr) (cc : Nat) (bv : Value) (w : World) (h0 : RN w na c0.nm) (h1 : RX w ga gs) (h2 : RM w a cs) (hn3 : n ≤ maxLen) (hn4 : n1 ≤ maxLen) (hn5 : n2 ≤ maxLen) : Calls Tryf.prog 4 #[.agg #[.int .u8 c0.cb, .int .u8 c0.am, .slice na n nc], .slice ga n1 gc, .slice a n2 cc, bv] w (BytP c0 gs cs w) := by
  have hM : maxLen = 9223372036854775807 := by decide
  rw [hM] at hn3 hn4 hn5
  have hno : Hid (∀ W, Below w.heap.size w W → BytP c0 gs cs w (.returned (.bool false)) W) := Lib.hid (fun W h => ⟨false, rfl, h, fun q => by cases q⟩)
  have hyes : Hid (∀ W, Below w.heap.size w W → BytF c0 gs cs → BytP c0 gs cs w (.returned (.bool true)) W) := Lib.hid (fun W h q => ⟨true, rfl, h, fun _ => q⟩)
  generalize BytP c0 gs cs w = QQ at *
  replace hn := Lib.hid hn
  replace hg := Lib.hid hg
  replace hc := Lib.hid hc
  replace hM := Lib.hid hM
  go_enter Tryf.func4, Tryf.ntmps4
  go_upto_region 2 with fail
  refine wp_gen (fun W hW => ?_)
  have bW : Hid (Below w.heap.size w W) := Lib.hid (by rw [hW]; exact ba _ _)
  have e2 : W.cell? ⟨w.heap.size, 2, none⟩ = some (.slice na n nc) := by rw [hW]; simp [go_sem]
  clear hW
  replace h0 := Lib.hid (h0.after bW.out)
  replace h1 := Lib.hid (h1.after bW.out)
  replace h2 := Lib.hid (h2.after bW.out)
  obtain ⟨P, hP⟩ : ∃ y, w.heap.size = y := ⟨_, rfl⟩
  rw [hP] at e2 ⊢
  clear hP
  by_cases q1 : (1048576 : Int) < n
  · go_wp2
    exact hno.out _ bW.out
  have ew := wr64 (x := (n : Int)) (by omega) (by omega)
  go_wp2
  clear ew
  go_loopw [9, 10] (fun u v wr => LpK W n u v wr) (fun _ v _ => n - (intOf v).toNat)
  case atStart => exact ⟨0, _, by omega, rfl, rfl, by omega, by omega, rfl⟩
  case round =>
    obtain ⟨k, x, hk, rfl, rfl, x0, x1, rfl⟩ := hrel
    by_cases hltk : k < n
    · obtain ⟨sb, hsb⟩ : ∃ sb, c0.nm[k]? = some sb := ⟨_, List.getElem?_eq_getElem (by rw [hn.out]; exact hltk)⟩
      obtain ⟨xb, xo, hax3, hx, -⟩ := h0.out k sb hsb
      rw [hax3] at e2
      have k0 : (0 : Int) ≤ k := by omega
      have k1 : (k : Int) < n := by omega
      obtain ⟨sz, hsz⟩ : ∃ y, sb.size = y := ⟨_, rfl⟩
      clear hsb hax3
      by_cases p1 : (1048576 : Int) < sz
      · go_wp2
        exact hno.out _ bW.out
      have ew3 := wr64 (x := x + sz) (by omega) (by omega)
      by_cases p2 : (1048576 : Int) < x + sz
      · go_wp2
        exact hno.out _ bW.out
      go_wp2
      go_roundw
      case rel => exact ⟨k + 1, _, by omega, rfl, by go_num, by omega, by omega, by first | rfl | trivial⟩
      case measure => simp [intOf]; omega
    · obtain rfl : k = n := by omega
      by_cases q2 : (1048576 : Int) < n1
      · go_wp2
        exact hno.out _ bW.out
      have ew := wr64 (x := x + n1) (by omega) (by omega)
      by_cases q3 : (1048576 : Int) < x + n1
      · go_wp2
        exact hno.out _ bW.out
      go_wp2
      clear ew
      go_loopw [9, 11] (fun u v wr => LpB W gs Bc u v wr) (fun _ v _ => n1 - (intOf v).toNat)
      case atStart => exact ⟨0, _, by omega, rfl, rfl, by omega, by omega, fun i' _ h => by omega, rfl⟩
      case round =>
        obtain ⟨i, z, hi, rfl, rfl, z0, z1, hAll, rfl⟩ := hrel
        rw [hg.out] at hi
        replace hAll := Lib.hid hAll
        by_cases hlt : i < n1
        · obtain ⟨g, hgi⟩ : ∃ g, gs[i]? = some g := ⟨_, List.getElem?_eq_getElem (by rw [hg.out]; exact hlt)⟩
          obtain ⟨b, o, a', c', rfl, hcg, hRM, hgm⟩ := h1.out i g hgi
          rw [hM.out] at hgm
          replace hRM := Lib.hid hRM
          replace hgi := Lib.hid hgi
          have i0 : (0 : Int) ≤ i := by omega
          have i1 : (i : Int) < n1 := by omega
          obtain ⟨m, hmm⟩ : ∃ m, g.length = m := ⟨_, rfl⟩
          rw [hmm] at hcg hgm
          replace hmm := Lib.hid hmm
          by_cases hm : (1048576 : Int) < m
          · go_wp2
            exact hno.out _ bW.out
          have ew := wr64 (x := z + m) (by omega) (by omega)
          by_cases hm2 : (1048576 : Int) < z + m
          · go_wp2
            exact hno.out _ bW.out
          go_wp2
          clear ew
          go_loopw [9, 12] (fun u v wr => LpB W g (fun c => c.nm.length ≤ 1048576) u v wr) (fun _ v _ => m - (intOf v).toNat)
          case atStart => exact ⟨0, _, by omega, rfl, rfl, by omega, by omega, fun i' _ h => by omega, rfl⟩
          case round =>
            obtain ⟨j, y, hj, rfl, rfl, y0, y1, hAllj, rfl⟩ := hrel
            rw [hmm.out] at hj
            replace hAllj := Lib.hid hAllj
            by_cases hltj : j < m
            · obtain ⟨c, hcq⟩ : ∃ c, g[j]? = some c := ⟨_, List.getElem?_eq_getElem (by rw [hmm.out]; exact hltj)⟩
              obtain ⟨gb, go, ca, cz, rfl, hs, hRN, hsm, -⟩ := hRM.out j c hcq
              rw [hM.out] at hsm
              obtain ⟨d0, d1, d2⟩ := segs3 hs
              have j0 : (0 : Int) ≤ j := by omega
              have j1 : (j : Int) < m := by omega
              obtain ⟨nS, hnS⟩ : ∃ y, c.nm.length = y := ⟨_, rfl⟩
              rw [hnS] at d2 hsm
              replace hnS := Lib.hid hnS
              replace hRN := Lib.hid hRN
              replace hcq := Lib.hid hcq
              clear hs d0 d1
              by_cases q3 : (1048576 : Int) < nS
              · go_wp2
                exact hno.out _ bW.out
              have ew2 := wr64 (x := y + nS) (by omega) (by omega)
              by_cases q4 : (1048576 : Int) < y + nS
              · go_wp2
                exact hno.out _ bW.out
              go_wp2
              clear ew2
              go_loopw [9, 13] (fun u v wr => LpK W nS u v wr) (fun _ v _ => nS - (intOf v).toNat)
              case atStart => exact ⟨0, _, by omega, rfl, rfl, by omega, by omega, rfl⟩
              case round =>
                obtain ⟨k, x, hk, rfl, rfl, x0, x1, rfl⟩ := hrel
                by_cases hltk : k < nS
                · obtain ⟨sb, hsb⟩ : ∃ sb, c.nm[k]? = some sb := ⟨_, List.getElem?_eq_getElem (by rw [hnS.out]; exact hltk)⟩
                  obtain ⟨xb, xo, hax3, hx, -⟩ := hRN.out k sb hsb
                  rw [hax3] at d2
                  have k0 : (0 : Int) ≤ k := by omega
                  have k1 : (k : Int) < nS := by omega
                  obtain ⟨sz, hsz⟩ : ∃ y, sb.size = y := ⟨_, rfl⟩
                  clear hsb hax3
                  by_cases p1 : (1048576 : Int) < sz
                  · go_wp2
                    exact hno.out _ bW.out
                  have ew3 := wr64 (x := x + sz) (by omega) (by omega)
                  by_cases p2 : (1048576 : Int) < x + sz
                  · go_wp2
                    exact hno.out _ bW.out
                  go_wp2
                  go_roundw
                  case rel => exact ⟨k + 1, _, by omega, rfl, by go_num, by omega, by omega, by first | rfl | trivial⟩
                  case measure => simp [intOf]; omega
                · obtain rfl : k = nS := by omega
                  go_wp2
                  go_roundw
                  case rel => exact ⟨j + 1, _, by rw [hmm.out]; omega, rfl, by go_num, x0, x1, fun j' c2 q h2' => by
                    by_cases e : j' = j
                    · subst e; rw [hcq.out] at h2'; cases h2'; rw [hnS.out]; omega
                    · exact hAllj.out j' c2 (by omega) h2', by first | rfl | trivial⟩
                  case measure => simp [intOf]; omega
            · obtain rfl : j = m := by omega
              go_wp2
              go_roundw
              case rel => exact ⟨i + 1, _, by rw [hg.out]; omega, rfl, by go_num, y0, y1, fun i' x q hx => by
                by_cases e : i' = i
                · subst e; rw [hgi.out] at hx; cases hx
                  exact ⟨by rw [hmm.out]; omega, all_of (fun j' y hj' hy => hAllj.out j' y (by rw [← hmm.out]; exact hj') hy)⟩
                · exact hAll.out i' x (by omega) hx, by first | rfl | trivial⟩
              case measure => simp [intOf]; omega
        · obtain rfl : i = n1 := by omega
          have hA1 : Hid (∀ g ∈ gs, Bc g) := Lib.hid (all_of (fun j' y hj' hy => hAll.out j' y (by rw [← hg.out]; exact hj') hy))
          clear hAll
          by_cases q4 : (1048576 : Int) < n2
          · go_wp2
            exact hno.out _ bW.out
          have ew := wr64 (x := z + n2) (by omega) (by omega)
          by_cases q5 : (1048576 : Int) < z + n2
          · go_wp2
            exact hno.out _ bW.out
          go_wp2
          clear ew
          go_loopw [9, 14] (fun u v wr => LpB W cs (fun c => c.nm.length ≤ 1048576) u v wr) (fun _ v _ => n2 - (intOf v).toNat)
          case atStart => exact ⟨0, _, by omega, rfl, rfl, by omega, by omega, fun i' _ h => by omega, rfl⟩
          case round =>
            obtain ⟨j, y, hj, rfl, rfl, y0, y1, hAllj, rfl⟩ := hrel
            rw [hc.out] at hj
            replace hAllj := Lib.hid hAllj
            by_cases hltj : j < n2
            · obtain ⟨c, hcq⟩ : ∃ c, cs[j]? = some c := ⟨_, List.getElem?_eq_getElem (by rw [hc.out]; exact hltj)⟩
              obtain ⟨gb, go, ca, cz, rfl, hs, hRN, hsm, -⟩ := h2.out j c hcq
              rw [hM.out] at hsm
              obtain ⟨d0, d1, d2⟩ := segs3 hs
              have j0 : (0 : Int) ≤ j := by omega
              have j1 : (j : Int) < n2 := by omega
              obtain ⟨nS, hnS⟩ : ∃ y, c.nm.length = y := ⟨_, rfl⟩
              rw [hnS] at d2 hsm
              replace hnS := Lib.hid hnS
              replace hRN := Lib.hid hRN
              replace hcq := Lib.hid hcq
              clear hs d0 d1
              by_cases q3 : (1048576 : Int) < nS
              · go_wp2
                exact hno.out _ bW.out
              have ew2 := wr64 (x := y + nS) (by omega) (by omega)
              by_cases q4 : (1048576 : Int) < y + nS
              · go_wp2
                exact hno.out _ bW.out
              go_wp2
              clear ew2
              go_loopw [9, 15] (fun u v wr => LpK W nS u v wr) (fun _ v _ => nS - (intOf v).toNat)
              case atStart => exact ⟨0, _, by omega, rfl, rfl, by omega, by omega, rfl⟩
              case round =>
                obtain ⟨k, x, hk, rfl, rfl, x0, x1, rfl⟩ := hrel
                by_cases hltk : k < nS
                · obtain ⟨sb, hsb⟩ : ∃ sb, c.nm[k]? = some sb := ⟨_, List.getElem?_eq_getElem (by rw [hnS.out]; exact hltk)⟩
                  obtain ⟨xb, xo, hax3, hx, -⟩ := hRN.out k sb hsb
                  rw [hax3] at d2
                  have k0 : (0 : Int) ≤ k := by omega
                  have k1 : (k : Int) < nS := by omega
                  obtain ⟨sz, hsz⟩ : ∃ y, sb.size = y := ⟨_, rfl⟩
                  clear hsb hax3
                  by_cases p1 : (1048576 : Int) < sz
                  · go_wp2
                    exact hno.out _ bW.out
                  have ew3 := wr64 (x := x + sz) (by omega) (by omega)
                  by_cases p2 : (1048576 : Int) < x + sz
                  · go_wp2
                    exact hno.out _ bW.out
                  go_wp2
                  go_roundw
                  case rel => exact ⟨k + 1, _, by omega, rfl, by go_num, by omega, by omega, by first | rfl | trivial⟩
                  case measure => simp [intOf]; omega
                · obtain rfl : k = nS := by omega
                  go_wp2
                  go_roundw
                  case rel => exact ⟨j + 1, _, by rw [hc.out]; omega, rfl, by go_num, x0, x1, fun j' c2 q h2' => by
                    by_cases e : j' = j
                    · subst e; rw [hcq.out] at h2'; cases h2'; rw [hnS.out]; omega
                    · exact hAllj.out j' c2 (by omega) h2', by first | rfl | trivial⟩
                  case measure => simp [intOf]; omega
            · obtain rfl : j = n2 := by omega
              have hA2 : Hid (∀ c ∈ cs, c.nm.length ≤ 1048576) := Lib.hid (all_of (fun j' y hj' hy => hAllj.out j' y (by rw [← hc.out]; exact hj') hy))
              go_wp2
              exact hyes.out _ bW.out ⟨by rw [hn.out]; omega, by rw [hg.out]; omega, hA1.out, by rw [hc.out]; omega, hA2.out⟩
end Go.Proofs.YtjigljpodkfchaaFmt
