/- Besides: the quotient keeps the order; no word between 1 and 1 + 2 ^ -52. Plain Lean. -/
import Derived.Test.YtanaamlkiackbaaFl2
namespace Go.Proofs.Ytanaamlkiackbaa.Flt
open Ieee Go
theorem quot_form (a b : Datum) {s t : Bool} {m n : Nat} {i j : Int} (ha : a = .number s m i) (hb : b = .number t n j) (hm : m < 2 ^ 53) (hn : n ≠ 0) :
    ∃ (D more q r : Nat), D = n * q + r ∧ r < n ∧ D = m * 2 ^ more ∧ (m ≠ 0 → 2 ^ 53 ≤ q) ∧ a.quotient 54 b = some (.number (s ^^ t) (2 * q + (r != 0).toNat) (i - j - (more : Int) - 1)) ∧
      dval a / dval b = sg (s ^^ t) * ((D : Rat) / (n : Rat)) * two (i - j - more) := by
  subst ha hb
  have hlm : m.log2 ≤ 52 := by
    by_cases h0 : m = 0
    · subst h0; decide
    · have := (Nat.log2_lt h0 (k := 53)).2 hm; omega
  have hqb : m ≠ 0 → 2 ^ 53 ≤ m * 2 ^ (54 + n.log2 - m.log2) / n := by
    intro h0
    rw [Nat.le_div_iff_mul_le (Nat.pos_of_ne_zero hn)]
    have h1 : 2 ^ m.log2 ≤ m := Nat.log2_self_le h0
    have h2 : n < 2 ^ (n.log2 + 1) := Nat.lt_log2_self
    have h3 : 2 ^ 53 * n ≤ 2 ^ 53 * 2 ^ (n.log2 + 1) := Nat.mul_le_mul_left _ (Nat.le_of_lt h2)
    have h4 : 2 ^ m.log2 * 2 ^ (54 + n.log2 - m.log2) ≤ m * 2 ^ (54 + n.log2 - m.log2) := Nat.mul_le_mul_right _ h1
    rw [← Nat.pow_add] at h3 h4
    rw [show m.log2 + (54 + n.log2 - m.log2) = 53 + (n.log2 + 1) by omega] at h4
    omega
  refine ⟨m * 2 ^ (54 + n.log2 - m.log2), 54 + n.log2 - m.log2, m * 2 ^ (54 + n.log2 - m.log2) / n, m * 2 ^ (54 + n.log2 - m.log2) % n, (Nat.div_add_mod _ _).symm, Nat.mod_lt _ (Nat.pos_of_ne_zero hn), rfl, hqb, ?_, ?_⟩
  · show (if n = 0 then if m = 0 then none else some (Datum.infinity (s ^^ t)) else some (.number (s ^^ t) (2 * (m <<< (54 + n.log2 - m.log2) / n) + (m <<< (54 + n.log2 - m.log2) % n != 0).toNat) (i - j - (54 + n.log2 - m.log2 : Nat) - 1))) = _
    rw [if_neg hn, Nat.shiftLeft_eq]
  generalize hmo : 54 + n.log2 - m.log2 = more
  have hn0 : 0 < n := Nat.pos_of_ne_zero hn
  generalize hD : m * 2 ^ more = D at *
  have hd : dval (.number t n j) ≠ 0 := by
    show sg t * (n : Rat) * two j ≠ 0
    have h1 : (n : Rat) ≠ 0 := by exact_mod_cast hn
    have h2 := two_pos j
    cases t <;> simp only [sg] <;> intro h <;> rcases Rat.mul_eq_zero.1 h with h | h <;> (try rcases Rat.mul_eq_zero.1 h with h | h) <;> grind
  have hnq : (0 : Rat) < (n : Rat) := by exact_mod_cast hn0
  have key : dval (.number s m i) / dval (.number t n j) = sg (s ^^ t) * ((D : Rat) / (n : Rat)) * two (i - j - more) := by
    have e1 : dval (.number s m i) = (sg (s ^^ t) * ((D : Rat) / (n : Rat)) * two (i - j - more)) * dval (.number t n j) := by
      show sg s * (m : Rat) * two i = (sg (s ^^ t) * ((D : Rat) / (n : Rat)) * two (i - j - more)) * (sg t * (n : Rat) * two j)
      rw [sg_xor, ← hD]
      have e2 : two i = two (i - j - more) * two j * ((2 ^ more : Nat) : Rat) := by
        rw [← two_nat, ← two_add, ← two_add]; congr 1; omega
      have e3 : sg t * sg t = 1 := by cases t <;> simp [sg] <;> grind
      have e4 : ((m * 2 ^ more : Nat) : Rat) / (n : Rat) * (n : Rat) = (m : Rat) * ((2 ^ more : Nat) : Rat) := by
        rw [Rat.div_mul_cancel (by grind)]; push_cast; rfl
      rw [e2]
      generalize ((m * 2 ^ more : Nat) : Rat) / (n : Rat) = X at *
      generalize ((2 ^ more : Nat) : Rat) = Y at *
      generalize two (i - j - more) = A at *
      generalize two j = C at *
      have : sg s * sg t * X * A * (sg t * (n : Rat) * C) = sg s * (sg t * sg t) * (X * (n : Rat)) * A * C := by grind
      rw [this, e3, e4]; grind
    rw [e1, Rat.mul_div_cancel hd]
  exact key
theorem sticky_mono {D n q r : Nat} {P : Int} {m' : Nat} {p' : Int} (hm' : m' < 2 ^ 53) (hn : 0 < n) (hD : D = n * q + r) (hr : r < n) (hq : D = 0 ∨ 2 ^ 53 ≤ q) :
    ((D : Rat) / (n : Rat) * two P ≤ (m' : Rat) * two p' → ((2 * q + (r != 0).toNat : Nat) : Rat) * two (P - 1) ≤ (m' : Rat) * two p') ∧
    ((m' : Rat) * two p' ≤ (D : Rat) / (n : Rat) * two P → (m' : Rat) * two p' ≤ ((2 * q + (r != 0).toNat : Nat) : Rat) * two (P - 1)) := by
  have hnq : (0 : Rat) < (n : Rat) := by exact_mod_cast hn
  have tp := two_pos P
  have tp' := two_pos p'
  have m0 : (0 : Rat) ≤ (m' : Rat) := by exact_mod_cast Nat.zero_le m'
  rcases hq with hq | hq
  · subst hq
    have q0 : q = 0 := by
      rcases Nat.eq_zero_or_pos q with c | c
      · exact c
      · have := Nat.mul_pos hn c; omega
    subst q0
    have r0 : r = 0 := by omega
    subst r0
    have e0 : ((0 : Nat) : Rat) / (n : Rat) * two P = 0 := by rw [Rat.div_def]; simp
    have e1 : ((2 * 0 + ((0 : Nat) != 0).toNat : Nat) : Rat) * two (P - 1) = 0 := by simp
    rw [e0, e1]
    exact ⟨id, id⟩
  have tP : two P = 2 * two (P - 1) := by
    have := two_add 1 (P - 1)
    rw [show (1 : Int) + (P - 1) = P by omega] at this
    rw [this]; rfl
  have tq := two_pos (P - 1)
  have f1 : (D : Rat) = (n : Rat) * (q : Rat) + (r : Rat) := by exact_mod_cast hD
  have f2 : (r : Rat) < (n : Rat) := by exact_mod_cast hr
  have f3 : (0 : Rat) ≤ (r : Rat) := by exact_mod_cast Nat.zero_le r
  have f4 : (D : Rat) / (n : Rat) = (q : Rat) + (r : Rat) / (n : Rat) := by
    rw [f1]
    have : (n : Rat) * (q : Rat) / (n : Rat) = (q : Rat) := by rw [Rat.mul_comm, Rat.mul_div_cancel (by grind)]
    rw [Rat.div_def, Rat.add_mul, ← Rat.div_def, this, ← Rat.div_def]
  have f6 : 0 ≤ (r : Rat) / (n : Rat) := by
    rw [Rat.div_def]; exact Rat.mul_nonneg f3 (Rat.le_of_lt (Rat.inv_pos.2 hnq))
  have f7 : r ≠ 0 → 0 < (r : Rat) / (n : Rat) := by
    intro h
    rw [Rat.div_def]; exact Rat.mul_pos (by exact_mod_cast Nat.pos_of_ne_zero h) (Rat.inv_pos.2 hnq)
  have f8 : r = 0 → (r : Rat) / (n : Rat) = 0 := by
    intro h; subst h; rw [Rat.div_def]; simp
  have f5 : (r : Rat) / (n : Rat) < 1 := by rw [Rat.div_lt_iff hnq]; grind
  rw [f4, tP]
  generalize hX : (r : Rat) / (n : Rat) = X at *
  have hK : ((2 * q + (r != 0).toNat : Nat) : Rat) = 2 * (q : Rat) + (if r = 0 then 0 else 1) := by
    by_cases h : r = 0
    · subst h; simp; exact_mod_cast rfl
    · have : (r != 0) = true := by simpa using h
      rw [this, if_neg h]; push_cast; rfl
  rw [hK]
  rcases Int.lt_or_le p' P with hp | hp
  · -- y lies below the quotient's first digit
    have hy : (m' : Rat) * two p' < (q : Rat) * (2 * two (P - 1)) := by
      have a1 : (m' : Rat) < ((2 ^ 53 : Nat) : Rat) := by exact_mod_cast hm'
      have a2 : ((2 ^ 53 : Nat) : Rat) ≤ (q : Rat) := by exact_mod_cast hq
      have a3 : two p' ≤ two P := by
        obtain ⟨k, hk⟩ : ∃ k : Nat, P = p' + k := ⟨(P - p').toNat, by omega⟩
        rw [hk, two_add, two_nat]
        have : (1 : Rat) ≤ ((2 ^ k : Nat) : Rat) := by exact_mod_cast Nat.one_le_two_pow
        have := Rat.mul_le_mul_of_nonneg_left this (Rat.le_of_lt tp')
        grind
      have a4 := Rat.mul_le_mul_of_nonneg_left a3 m0
      have a5 : (m' : Rat) * two P < (q : Rat) * two P := Rat.mul_lt_mul_of_pos_right (by grind) tp
      rw [tP] at a4 a5
      grind
    have hX0 := Rat.mul_nonneg f6 (Rat.le_of_lt tq)
    constructor
    · intro h; exfalso; grind
    · intro h; split <;> grind
  · obtain ⟨k, hk⟩ : ∃ k : Nat, p' = (k : Int) + P := ⟨(p' - P).toNat, by omega⟩
    have ey : (m' : Rat) * two p' = ((m' * 2 ^ k : Nat) : Rat) * (2 * two (P - 1)) := by
      rw [hk, two_add, two_nat, tP]; push_cast; grind
    rw [ey]
    generalize hY : m' * 2 ^ k = Y
    have c1 : ∀ {a b : Rat}, a * (2 * two (P - 1)) ≤ b * (2 * two (P - 1)) → a ≤ b := by
      intro a b h
      exact Rat.le_of_mul_le_mul_right h (by grind)
    constructor
    · intro h
      have h1 := c1 h
      by_cases hr0 : r = 0
      · rw [if_pos hr0]
        have : (q : Rat) ≤ (Y : Rat) := by grind
        have := Rat.mul_le_mul_of_nonneg_right this (Rat.le_of_lt tq)
        grind
      · rw [if_neg hr0]
        have g := f7 hr0
        have : (q : Rat) < (Y : Rat) := by grind
        have h2 : q + 1 ≤ Y := by exact_mod_cast this
        have h3 : (q : Rat) + 1 ≤ (Y : Rat) := by exact_mod_cast h2
        have := Rat.mul_le_mul_of_nonneg_right h3 (Rat.le_of_lt tq)
        grind
    · intro h
      have h1 := c1 h
      have h2 : (Y : Rat) < (q : Rat) + 1 := by grind
      have h3 : Y < q + 1 := by exact_mod_cast h2
      have h4 : (Y : Rat) ≤ (q : Rat) := by exact_mod_cast (show Y ≤ q by omega)
      have := Rat.mul_le_mul_of_nonneg_right h4 (Rat.le_of_lt tq)
      split <;> grind
theorem div_mono (x v : Nat) (fx : fin x) (fv : fin v) (h0 : val v ≠ 0) (h : Abs (val x / val v) (two 1021)) :
    ∃ r, floatBits .quo .f64 x v = some r ∧ fin r ∧ ∀ y, fin y → (val x / val v ≤ val y → val r ≤ val y) ∧ (val y ≤ val x / val v → val y ≤ val r) := by
  obtain ⟨s, m, i, ex, hm, -⟩ := fin_num fx
  obtain ⟨t, n, j, ev, hn, -⟩ := fin_num fv
  have hn0 : n ≠ 0 := by
    intro h; apply h0; unfold val; rw [ev, h]; simp [dval]
  obtain ⟨D, more, q, r, e1, e2, e3, e4, e5, e6⟩ := quot_form _ _ ex ev hm hn0
  have hz : D = 0 ∨ 2 ^ 53 ≤ q := by
    by_cases c : m = 0
    · left; rw [e3, c]; simp
    · right; exact e4 c
  have e6' : val x / val v = sg (s ^^ t) * ((D : Rat) / (n : Rat) * two (i - j - more)) := by
    show dval (F.read x) / dval (F.read v) = _
    rw [e6, Rat.mul_assoc]
  have S := fun m' p' hm' => sticky_mono (D := D) (n := n) (q := q) (r := r) (P := i - j - (more : Int)) (m' := m') (p' := p') hm' (Nat.pos_of_ne_zero hn0) e1 e2 hz
  have V0 : (0 : Rat) ≤ (D : Rat) / (n : Rat) * two (i - j - more) := by
    rw [Rat.div_def]
    exact Rat.mul_nonneg (Rat.mul_nonneg (by exact_mod_cast Nat.zero_le D) (Rat.le_of_lt (Rat.inv_pos.2 (by exact_mod_cast Nat.pos_of_ne_zero hn0)))) (Rat.le_of_lt (two_pos _))
  have K0 : (0 : Rat) ≤ ((2 * q + (r != 0).toNat : Nat) : Rat) * two (i - j - (more : Int) - 1) := Rat.mul_nonneg (by exact_mod_cast Nat.zero_le _) (Rat.le_of_lt (two_pos _))
  have Z := (S 0 0 (by decide)).1
  rw [show ((0 : Nat) : Rat) * two 0 = 0 by simp] at Z
  have T := (S 1 1021 (by decide)).1
  rw [show ((1 : Nat) : Rat) * two 1021 = two 1021 by rw [show ((1 : Nat) : Rat) = 1 from rfl, Rat.one_mul]] at T
  have ed : dval (.number (s ^^ t) (2 * q + (r != 0).toNat) (i - j - (more : Int) - 1)) = sg (s ^^ t) * (((2 * q + (r != 0).toNat : Nat) : Rat) * two (i - j - (more : Int) - 1)) := by
    show sg (s ^^ t) * _ * _ = _; rw [Rat.mul_assoc]
  have hfb : floatBits .quo .f64 x v = some (F.write (.number (s ^^ t) (2 * q + (r != 0).toNat) (i - j - (more : Int) - 1))) := by
    show ((F.read x).quotient 54 (F.read v)).map F.write = _
    rw [e5]; rfl
  rw [e6'] at h ⊢
  have tt : two 1022 = 2 * two 1021 := by rw [show (1022 : Int) = 1 + 1021 by decide, two_add]; rfl
  have t21 := two_pos 1021
  generalize hd : Datum.number (s ^^ t) (2 * q + (r != 0).toNat) (i - j - (more : Int) - 1) = d at *
  have nd : isNum d := by rw [← hd]; trivial
  generalize (s ^^ t) = σ at *
  generalize (D : Rat) / (n : Rat) * two (i - j - more) = V at *
  generalize ((2 * q + (r != 0).toNat : Nat) : Rat) * two (i - j - (more : Int) - 1) = K at *
  have hA : Abs (dval d) (two 1022) := by
    rw [ed, tt]; unfold Abs at h ⊢
    cases σ <;> simp only [sg] at h ⊢ <;> grind
  refine ⟨F.write d, hfb, (write_mono d nd 0 zero_fin.1 hA).1, fun y fy => ?_⟩
  obtain ⟨-, w1, w2⟩ := write_mono d nd y fy hA
  obtain ⟨s', m', p', ey, hm', -⟩ := num_abs fy
  obtain ⟨S1, S2⟩ := S m' p' hm'
  have M0 : (0 : Rat) ≤ (m' : Rat) * two p' := Rat.mul_nonneg (by exact_mod_cast Nat.zero_le _) (Rat.le_of_lt (two_pos _))
  constructor
  · intro hh; apply w1; rw [ed]; rw [ey] at hh ⊢
    generalize (m' : Rat) * two p' = M at *
    cases σ <;> cases s' <;> simp only [sg] at hh ⊢ <;> grind
  · intro hh; apply w2; rw [ed]; rw [ey] at hh ⊢
    generalize (m' : Rat) * two p' = M at *
    cases σ <;> cases s' <;> simp only [sg] at hh ⊢ <;> grind
/-- no word lies between 1 and 1 + 2 ^ -52 -/
theorem gap_one {x : Nat} (fx : fin x) (h : val x < 1 + two (-52)) : val x ≤ 1 := by
  obtain ⟨s, m, p, e, hm, hp⟩ := num_abs fx
  rw [e] at h ⊢
  have M0 : (0 : Rat) ≤ (m : Rat) * two p := Rat.mul_nonneg (by exact_mod_cast Nat.zero_le _) (Rat.le_of_lt (two_pos _))
  cases s with
  | true => simp only [sg]; grind
  | false =>
    simp only [sg] at h ⊢
    by_cases c : p ≤ -53
    · have a1 : (m : Rat) ≤ ((2 ^ 53 : Nat) : Rat) := by exact_mod_cast Nat.le_of_lt hm
      have a2 := Rat.mul_le_mul_of_nonneg_right a1 (Rat.le_of_lt (two_pos p))
      have a3 : ((2 ^ 53 : Nat) : Rat) * two p ≤ 1 := by
        rw [← two_nat, ← two_add]
        obtain ⟨k, hk⟩ : ∃ k : Nat, (((53 : Nat) : Int) + p) + k = 0 := ⟨(-(((53 : Nat) : Int) + p)).toNat, by omega⟩
        have b1 : two ((((53 : Nat) : Int) + p) + k) = 1 := by rw [hk]; unfold two; rfl
        rw [two_add, two_nat] at b1
        have b2 : (1 : Rat) ≤ ((2 ^ k : Nat) : Rat) := by exact_mod_cast Nat.one_le_two_pow
        have b3 := Rat.mul_le_mul_of_nonneg_left b2 (Rat.le_of_lt (two_pos (((53 : Nat) : Int) + p)))
        grind
      grind
    · obtain ⟨k, hk⟩ : ∃ k : Nat, p = (k : Int) + (-52) := ⟨(p + 52).toNat, by omega⟩
      have e1 : (m : Rat) * two p = ((m * 2 ^ k : Nat) : Rat) * two (-52) := by
        rw [hk, two_add, two_nat]; push_cast; grind
      have e2 : (1 : Rat) = ((2 ^ 52 : Nat) : Rat) * two (-52) := by unfold two; decide +kernel
      rw [e1] at h ⊢
      have h2 : ((m * 2 ^ k : Nat) : Rat) * two (-52) < ((2 ^ 52 + 1 : Nat) : Rat) * two (-52) := by
        have : ((2 ^ 52 + 1 : Nat) : Rat) = ((2 ^ 52 : Nat) : Rat) + 1 := by decide +kernel
        rw [this, Rat.add_mul, ← e2]; grind
      have h3 : ((m * 2 ^ k : Nat) : Rat) < ((2 ^ 52 + 1 : Nat) : Rat) := Rat.lt_of_mul_lt_mul_right h2 (Rat.le_of_lt (two_pos _))
      have h4 : m * 2 ^ k < 2 ^ 52 + 1 := by exact_mod_cast h3
      have h5 : ((m * 2 ^ k : Nat) : Rat) ≤ ((2 ^ 52 : Nat) : Rat) := by exact_mod_cast (show m * 2 ^ k ≤ 2 ^ 52 by omega)
      have := Rat.mul_le_mul_of_nonneg_right h5 (Rat.le_of_lt (two_pos (-52)))
      grind
end Go.Proofs.Ytanaamlkiackbaa.Flt
