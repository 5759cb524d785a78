/- The law in plain words: what the functions give at a, b answers as it says. -/
import Derived.Test.YtkbgkogfjfojgaaDoorNum
set_option linter.unusedSimpArgs false
set_option linter.unusedVariables false
set_option maxRecDepth 100000
namespace Go.Proofs.YtkbgkogfjfojgaaDoor
open Go.RowKit
open Ieee Go
open Flt
open Pc (atanP p4 Br cosK sinK)
theorem c1e100 : Flt.fin 6103021453049119613 ∧ val 6103021453049119613 = 10000000000000000159028911097599180468360808563945281389781327557747838772170381060813469985856815104 := const_val (by decide +kernel) (by decide +kernel)
theorem c1em100 : Flt.fin 3110860544497550640 ∧ val 3110860544497550640 = 492525077454931 / 4925250774549309901534880012517951725634967408808180833493536675530715221437151326426783281860614455100828498788352 := const_val (by decide +kernel) (by decide +kernel)
def magB (x : Nat) : Bool := eqB x 0 || (geB (absB x) 3110860544497550640 && leB (absB x) 6103021453049119613)
theorem mul0 {x y : Nat} (fx : Flt.fin x) (fy : Flt.fin y) (h : val y = 0) : ∃ r, floatBits .mul .f64 x y = some r ∧ Flt.fin r ∧ val r = 0 := by
  have e : val x * val y = 0 := by rw [h]; exact Rat.mul_zero _
  have l : (0 : Rat) < two 1022 := two_pos _
  obtain ⟨r, h1, h2, m⟩ := mul_mono x y fx fy (by rw [e]; unfold Abs; constructor <;> grind)
  have z := m 0 zero_fin.1
  rw [zero_fin.2, e] at z
  exact ⟨r, h1, h2, by have := z.1 (by grind); have := z.2 (by grind); grind⟩
theorem add0 {x y : Nat} (fx : Flt.fin x) (fy : Flt.fin y) (h : val x = 0) (h' : val y = 0) : ∃ r, floatBits .add .f64 x y = some r ∧ Flt.fin r ∧ val r = 0 := by
  have e : val x + val y = 0 := by rw [h, h']; exact Rat.add_zero _
  have l : (0 : Rat) < two 1022 := two_pos _
  obtain ⟨r, h1, h2, m⟩ := add_mono x y fx fy (by rw [e]; unfold Abs; constructor <;> grind)
  have z := m 0 zero_fin.1
  rw [zero_fin.2, e] at z
  exact ⟨r, h1, h2, by have := z.1 (by grind); have := z.2 (by grind); grind⟩
theorem sub0 {x y : Nat} (fx : Flt.fin x) (fy : Flt.fin y) (h : val x = 0) (h' : val y = 0) : ∃ r, floatBits .sub .f64 x y = some r ∧ Flt.fin r ∧ val r = 0 := by
  have e : val x - val y = 0 := by rw [h, h']; grind
  have l : (0 : Rat) < two 1022 := two_pos _
  obtain ⟨r, h1, h2, m⟩ := sub_mono x y fx fy (by rw [e]; unfold Abs; constructor <;> grind)
  have z := m 0 zero_fin.1
  rw [zero_fin.2, e] at z
  exact ⟨r, h1, h2, by have := z.1 (by grind); have := z.2 (by grind); grind⟩
/-- sine and cosine at any angle that the hue gives -/
theorem trig_any (x : Nat) (wx : x < 2 ^ 64) (fx : Flt.fin x) (h0 : 0 ≤ val x) (h1 : val x ≤ 63 / 10) : ∃ k c s, Trig x k c s (val x) := by
  obtain ⟨t, r, hr, rfl⟩ := fin_word wx fx
  have v := word_val t r hr
  by_cases c : r = 0
  · subst c
    rw [(word_zero t).2]
    exact trig_zero t
  · have p := word_pos r (by omega) hr
    cases t
    · exact trig_ex r hr p h1
    · exfalso
      rw [v] at h0
      simp only [if_true] at h0
      grind
theorem to_of {l a b w deg H c : Nat} (hC : C2 b a w) (hH : HueR w deg H) (hc : ∃ a2 b2 s, floatBits .mul .f64 a a = some a2 ∧ floatBits .mul .f64 b b = some b2 ∧ floatBits .add .f64 a2 b2 = some s ∧ F.sqrt s = some c) : To l a b c H := fun W => by
  obtain ⟨a2, b2, s, e1, e2, e3, e4⟩ := hc
  obtain ⟨hd, ⟨hl, rfl⟩ | ⟨hl, hh⟩⟩ := hH
  · exact lch_pos l a b w H a2 b2 s c W hC hd e1 e2 e3 e4 hl
  · exact lch_neg l a b w deg a2 b2 s c H W hC hd e1 e2 e3 e4 hh hl
/-- all that the law looks at -/
structure LawP (l a b C H a2 b2 tol d1 d2 : Nat) : Prop where
  thr : To l a b C H
  fro : Fro l C H a2 b2
  c0 : geB C 0 = true
  h0 : geB H 0 = true
  h1 : leB H 4645040803167600640 = true
  t : floatBits .mul .f64 4427486594234968593 C = some tol
  s1 : floatBits .sub .f64 a2 a = some d1
  s2 : floatBits .sub .f64 b2 b = some d2
  k1 : leB (absB d1) tol = true
  k2 : leB (absB d2) tol = true
theorem mag_val {r : Nat} {s : Bool} (hr : r < top) (h : magB (F.word s r) = true) : r = 0 ∨ (1 / 10 ^ 101 ≤ val (F.word false r) ∧ val (F.word false r) ≤ 10 ^ 101) := by
  by_cases c : r = 0
  · exact .inl c
  · refine .inr ?_
    have fw := word_fin s r hr
    have v := word_val s r hr
    have p := word_pos r (by omega) hr
    obtain ⟨g1, g2, g3, g4⟩ := absB_val (word_lt s r (by omega)) fw
    have ev : val (absB (F.word s r)) = val (F.word false r) := by
      generalize val (F.word false r) = X at *
      cases s <;> simp at v <;> rcases g4 with g | g <;> grind
    unfold magB at h
    have e0 : eqB (F.word s r) 0 = false := by
      cases e : eqB (F.word s r) 0
      · rfl
      · have := (eqB_iff fw zero_fin.1).1 e
        rw [zero_fin.2] at this
        cases s <;> simp at v <;> grind
    rw [e0, Bool.false_or, Bool.and_eq_true] at h
    have h1 := (geB_iff g1 c1em100.1).1 h.1
    have h2 := (leB_iff g1 c1e100.1).1 h.2
    rw [ev, c1em100.2] at h1
    rw [ev, c1e100.2] at h2
    have l1 := (show (1 : Rat) / 10 ^ 101 ≤ 492525077454931 / 4925250774549309901534880012517951725634967408808180833493536675530715221437151326426783281860614455100828498788352 by decide +kernel)
    have l2 := (show (10000000000000000159028911097599180468360808563945281389781327557747838772170381060813469985856815104 : Rat) ≤ 10 ^ 101 by decide +kernel)
    exact ⟨Rat.le_trans l1 h1, Rat.le_trans h2 l2⟩
theorem mag_fin {x : Nat} (h : magB x = true) (wx : x < 2 ^ 64) : Flt.fin x := by
  unfold magB at h
  rw [Bool.or_eq_true, Bool.and_eq_true] at h
  rcases h with h | h
  · refine fin_of_between (a := 0) (b := 0) zero_fin.1 zero_fin.1 ?_ ?_
    · unfold eqB at h; unfold geB; rw [h, Bool.or_true]
    · unfold eqB at h; unfold leB; rw [h, Bool.or_true]
  · have f := fin_of_between c1em100.1 c1e100.1 h.1 h.2
    unfold absB at f
    split at f
    · have e : negB (negB x) = x := by
        show (x ^^^ 2 ^ 63) ^^^ 2 ^ 63 = x
        rw [Nat.xor_assoc, Nat.xor_self, Nat.xor_zero]
      have w : negB x < 2 ^ 64 := by
        show x ^^^ 2 ^ 63 < 2 ^ 64
        exact Nat.xor_lt_two_pow wx (by decide)
      have := (negB_val w f).1
      rwa [e] at this
    · exact f
theorem law_zero (l : Nat) (sa sb : Bool) : ∃ C H a2 b2 tol d1 d2, LawP l (F.word sa 0) (F.word sb 0) C H a2 b2 tol d1 d2 := by
  have fa := word_zero sa
  have fb := word_zero sb
  obtain ⟨a2, e1, f1, v1⟩ := mul0 fa.1 fa.1 fa.2
  obtain ⟨b2, e2, f2, v2⟩ := mul0 fb.1 fb.1 fb.2
  obtain ⟨s, e3, f3, v3⟩ := add0 f1 f2 v1 v2
  obtain ⟨c, e4, f4, v4⟩ := sqrt_zero f3 v3
  have hp4 := Pc.p4_bd
  have h0 : 0 < top := by decide
  obtain ⟨w, hC, fw, hQ⟩ : ∃ w, C2 (F.word sb 0) (F.word sa 0) w ∧ Flt.fin w ∧ Quad (val w) 0 0 0 0 0 (7 / 10 ^ 15) := by
    cases sa
    · refine ⟨_, fun w => at2_a sb false 0 0 w h0 h0 rfl rfl, fb.1, .inl ⟨by rw [fb.2]; grind, by rw [fb.2]; unfold Near; constructor <;> grind, rfl, rfl⟩⟩
    · have fw := word_fin sb 4614256656552045848 (by decide)
      have wv := word_val sb 4614256656552045848 (by decide)
      have w0 : val (F.word false 4614256656552045848) = 4 * p4 := vPI
      rw [w0] at wv
      refine ⟨_, fun w => at2_c sb true 0 0 w h0 h0 rfl rfl rfl, fw, ?_⟩
      rw [wv]
      cases sb
      · exact .inr (.inl ⟨by simp only [Bool.false_eq_true, if_false]; unfold Near; constructor <;> grind, by grind, rfl⟩)
      · exact .inr (.inr (.inl ⟨by simp only [if_true]; unfold Near; constructor <;> grind, by grind, by grind⟩))
  obtain ⟨deg, H, rad, hH, fH, H0, H1, eR, fR, r0, r1, -⟩ := hue_acc w 0 0 0 0 0 fw ⟨Rat.le_refl, by grind⟩ hQ
  obtain ⟨k, cv, sv, T⟩ := trig_any rad (bits_lt eR) fR r0 r1
  obtain ⟨x, ex, fx, vx⟩ := mul0 T.fc f4 v4
  obtain ⟨y, ey, fy, vy⟩ := mul0 T.fs f4 v4
  obtain ⟨tol, et, ft, vt⟩ := mul0 c12.1 f4 v4
  obtain ⟨d1, g1, i1, j1⟩ := sub0 fx fa.1 vx fa.2
  obtain ⟨d2, g2, i2, j2⟩ := sub0 fy fb.1 vy fb.2
  have small : ∀ d, d < 2 ^ 64 → Flt.fin d → val d = 0 → leB (absB d) tol = true := fun d wd fd vd => by
    obtain ⟨k1, k2, k3, k4⟩ := absB_val wd fd
    refine (leB_iff k1 ft).2 ?_
    rw [vt]
    rcases k4 with k | k <;> rw [k, vd] <;> grind
  exact ⟨c, H, x, y, tol, d1, d2, ⟨to_of hC hH ⟨a2, b2, s, e1, e2, e3, e4⟩, fun W hT => lcl_c l c H rad cv sv x y W eR T.cc T.cs ex ey hT, (geB_iff f4 zero_fin.1).2 (by rw [zero_fin.2, v4]; grind), (geB_iff fH zero_fin.1).2 (by rw [zero_fin.2]; exact H0), (leB_iff fH c360.1).2 (by rw [c360.2]; exact H1), et, g1, g2, small d1 (bits_lt g1) i1 j1, small d2 (bits_lt g2) i2 j2⟩⟩
theorem law_ex (l : Nat) (sa sb : Bool) (ra rb : Nat) (ha : ra < top) (hb : rb < top) (ma : ra = 0 ∨ (1 / 10 ^ 101 ≤ val (F.word false ra) ∧ val (F.word false ra) ≤ 10 ^ 101)) (mb : rb = 0 ∨ (1 / 10 ^ 101 ≤ val (F.word false rb) ∧ val (F.word false rb) ≤ 10 ^ 101)) : ∃ C H a2 b2 tol d1 d2, LawP l (F.word sa ra) (F.word sb rb) C H a2 b2 tol d1 d2 := by
  by_cases hz : ra = 0 ∧ rb = 0
  · obtain ⟨rfl, rfl⟩ := hz
    exact law_zero l sa sb
  have l101 : (0 : Rat) < 1 / 10 ^ 101 := by decide +kernel
  have fa := word_fin sa ra ha
  have fb := word_fin sb rb hb
  have va := word_val sa ra ha
  have vb := word_val sb rb hb
  have za : val (F.word false 0) = 0 := (word_zero false).2
  obtain ⟨c, ρ, p, q, hc, r1, r2, hp, hq, hn⟩ := chr_ex fa fb (val (F.word false ra)) (val (F.word false rb)) (by cases sa <;> simp at va <;> simp [va]) (by cases sb <;> simp at vb <;> simp [vb]) (by rcases ma with h | h; exact .inl (by rw [h]; exact za); exact .inr h) (by rcases mb with h | h; exact .inl (by rw [h]; exact za); exact .inr h) (by
    by_cases c : ra = 0
    · refine .inr ?_
      have : rb ≠ 0 := fun h => hz ⟨c, h⟩
      have := word_pos rb (by omega) hb
      grind
    · refine .inl ?_
      have := word_pos ra (by omega) ha
      grind)
  have ρ0 : 0 < ρ := by have := (show (0 : Rat) < 1 / 10 ^ 120 by decide +kernel); grind
  obtain ⟨w, ang, hC, fw, hB, hQ⟩ := at2_acc sb sa rb ra hb ha p q ρ ρ0 hc.hp hc.hq hp hq ma mb (by by_cases c : ra = 0; exact .inr (fun h => hz ⟨c, h⟩); exact .inl c)
  obtain ⟨deg, H, rad, hH, fH, H0, H1, eR, fR, R0, R1, s, m, sx, sy, hS, hx, hA, hB'⟩ := hue_acc w ang _ _ _ _ fw hB.range hQ
  obtain ⟨k, cv, sv, T⟩ := trig_any rad (bits_lt eR) fR R0 R1
  have Q := Pc.quad p q ang _ (2 / 10 ^ 15) (2 / 10 ^ 14) (val rad) k T.hk hp.1 hq.1 hn (by decide +kernel) (by decide +kernel) (by decide +kernel) (by decide +kernel) hB rfl T.rg s m sx sy hS hx
  have n1 := T.nc
  have n2 := T.ns
  have sgn : (sx = 1 ∨ sx = -1) ∧ (sy = 1 ∨ sy = -1) := by rcases hS with ⟨_, _, h1, h2⟩ | ⟨_, _, h1, h2⟩ | ⟨_, _, h1, h2⟩ | ⟨_, _, h1, h2⟩ <;> rw [h1, h2] <;> simp
  generalize cosK k (val rad - 2 * (k : Rat) * p4) = X at *
  generalize sinK k (val rad - 2 * (k : Rat) * p4) = Y at *
  obtain ⟨q1, q2⟩ := Q
  obtain ⟨tol, et, ft, vt⟩ := tol_ex hc.fc hc.vc r1 r2
  obtain ⟨x, d1, ex, g1, i1⟩ := cmp_ex (A := sx * p) T.fc hc.fc fa (word_lt sa ra (by omega)) hc.vc r1 r2 ft vt (by rcases sgn.1 with h | h <;> rw [h] <;> unfold Abs <;> constructor <;> grind) (by rw [hA]; grind) (by unfold Near at n1 ⊢; unfold Pc.Bd at q1; constructor <;> grind)
  obtain ⟨y, d2, ey, g2, i2⟩ := cmp_ex (A := sy * q) T.fs hc.fc fb (word_lt sb rb (by omega)) hc.vc r1 r2 ft vt (by rcases sgn.2 with h | h <;> rw [h] <;> unfold Abs <;> constructor <;> grind) (by rw [hB']; grind) (by unfold Near at n2 ⊢; unfold Pc.Bd at q2; constructor <;> grind)
  exact ⟨c, H, x, y, tol, d1, d2, ⟨to_of hC hH hc.fl, fun W hT => lcl_c l c H rad cv sv x y W eR T.cc T.cs ex ey hT, (geB_iff hc.fc zero_fin.1).2 (by rw [zero_fin.2, hc.vc]; grind), (geB_iff fH zero_fin.1).2 (by rw [zero_fin.2]; exact H0), (leB_iff fH c360.1).2 (by rw [c360.2]; exact H1), et, g1, g2, i1, i2⟩⟩
theorem law_any (l a b : Nat) (wa : a < 2 ^ 64) (wb : b < 2 ^ 64) (ma : magB a = true) (mb : magB b = true) : ∃ C H a2 b2 tol d1 d2, LawP l a b C H a2 b2 tol d1 d2 := by
  obtain ⟨sa, ra, ha, rfl⟩ := fin_word wa (mag_fin ma wa)
  obtain ⟨sb, rb, hb, rfl⟩ := fin_word wb (mag_fin mb wb)
  exact law_ex l sa sb ra rb ha hb (mag_val ha ma) (mag_val hb mb)
end Go.Proofs.YtkbgkogfjfojgaaDoor
