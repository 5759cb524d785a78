/- A small theory of float64 in this model: the value of a word as a rational; the error of one rounding; the four operations, exact results, the order of words. Plain Lean: no program in sight. -/
import Ieee.Arith
import Derived.Laws.FloatArith
namespace Go.Proofs.YtkbgkogfjfojgaaDoor.Flt
open Ieee Go
abbrev F : Format := Ieee.double
def two (p : Int) : Rat := (2 : Rat) ^ p
theorem two_pos (p : Int) : 0 < two p := Rat.zpow_pos (by decide)
theorem two_add (p q : Int) : two (p + q) = two p * two q := Rat.zpow_add (by decide) p q
theorem two_nat (n : Nat) : two (n : Int) = ((2 ^ n : Nat) : Rat) := by
  unfold two; rw [Rat.zpow_natCast]; induction n with
  | zero => rfl
  | succ n ih => rw [Rat.pow_succ, ih, Nat.pow_succ, Rat.natCast_mul]; rfl
theorem two_zero : two 0 = 1 := by unfold two; rfl
theorem two_mono {p q : Int} (h : p ≤ q) : two p ≤ two q := by
  obtain ⟨n, rfl⟩ : ∃ n : Nat, q = p + n := ⟨(q - p).toNat, by omega⟩
  rw [two_add, two_nat]
  have h1 : (1 : Rat) ≤ ((2 ^ n : Nat) : Rat) := by
    have : 1 ≤ 2 ^ n := Nat.one_le_two_pow
    exact_mod_cast this
  have := Rat.mul_le_mul_of_nonneg_left h1 (Rat.le_of_lt (two_pos p))
  simpa using this
/-- the cut to the nearest: half a gap at most -/
theorem cut_near (neg : Bool) (n drop : Nat) :
    2 * (Toward.even.cut neg n drop * 2 ^ drop) ≤ 2 * n + 2 ^ drop ∧ 2 * n ≤ 2 * (Toward.even.cut neg n drop * 2 ^ drop) + 2 ^ drop := by
  unfold Toward.cut
  dsimp only
  rw [Nat.one_shiftLeft]
  by_cases hd : drop ≤ n.log2 + 2
  · rw [Nat.min_eq_left hd]
    have hp : 0 < 2 ^ drop := Nat.two_pow_pos drop
    have e := Nat.div_add_mod n (2 ^ drop)
    have hr := Nat.mod_lt n hp
    generalize hg : 2 ^ drop = g at *
    generalize n / g = q at *
    generalize n % g = r at *
    rw [Nat.add_mul, Nat.mul_comm q g]
    cases hb : (decide (g < 2 * r) || (g == 2 * r && q % 2 == 1))
    · simp only [Bool.toNat_false, Nat.zero_mul]
      simp only [Bool.or_eq_false_iff, decide_eq_false_iff_not] at hb
      omega
    · simp only [Bool.toNat_true, Nat.one_mul]
      simp only [Bool.or_eq_true, decide_eq_true_eq, Bool.and_eq_true, beq_iff_eq] at hb
      omega
  · rw [Nat.min_eq_right (by omega)]
    have h1 : n < 2 ^ (n.log2 + 1) := Nat.lt_log2_self
    have h2 : 2 ^ (n.log2 + 2) = 2 * 2 ^ (n.log2 + 1) := by rw [Nat.pow_succ]; omega
    have h3 : 2 ^ (n.log2 + 2) ≤ 2 ^ drop := Nat.pow_le_pow_right (by decide) (by omega)
    have h4 : n / 2 ^ (n.log2 + 2) = 0 := Nat.div_eq_of_lt (by omega)
    have h5 : n % 2 ^ (n.log2 + 2) = n := Nat.mod_eq_of_lt (by omega)
    rw [h4, h5]
    have hb : (decide (2 ^ (n.log2 + 2) < 2 * n) || (2 ^ (n.log2 + 2) == 2 * n && 0 % 2 == 1)) = false := by
      simp only [Bool.or_eq_false_iff, decide_eq_false_iff_not, Bool.and_eq_false_iff, beq_eq_false_iff_ne]
      omega
    rw [hb]
    simp only [Bool.toNat_false]
    omega
theorem cut_zero (neg : Bool) (n : Nat) : Toward.even.cut neg n 0 = n := by
  have := cut_near neg n 0
  simp only [Nat.pow_zero, Nat.mul_one] at this
  omega
def ulast (mag : Nat) (place : Int) : Int := max (place + mag.log2 - 52) (-1074)
def ukept (neg : Bool) (mag : Nat) (place : Int) : Nat := Toward.even.cut neg (mag <<< (place - ulast mag place).toNat) (ulast mag place - place).toNat
theorem nearest_eq (neg : Bool) (mag : Nat) (place : Int) (h : mag ≠ 0) :
    F.nearest neg mag place = F.word neg (min ((ulast mag place + 1074).toNat * 2 ^ 52 + ukept neg mag place) (2047 * 2 ^ 52)) := by
  unfold Format.nearest
  rw [if_neg h]
  rfl
/-- what is kept, against what was there -/
theorem kept_err (neg : Bool) (mag : Nat) (place : Int) :
    (ukept neg mag place : Rat) * two (ulast mag place) ≤ (mag : Rat) * two place + two (ulast mag place - 1) ∧
    (mag : Rat) * two place ≤ (ukept neg mag place : Rat) * two (ulast mag place) + two (ulast mag place - 1) := by
  unfold ukept
  generalize ulast mag place = last
  by_cases hp : last ≤ place
  · obtain ⟨n, rfl⟩ : ∃ n : Nat, place = last + n := ⟨(place - last).toNat, by omega⟩
    rw [show (last - (last + (n : Int))).toNat = 0 by omega, cut_zero, show (last + (n : Int) - last).toNat = n by omega, Nat.shiftLeft_eq, two_add, two_nat]
    have := two_pos (last - 1)
    push_cast
    constructor <;> grind
  · obtain ⟨n, rfl⟩ : ∃ n : Nat, last = place + n := ⟨(last - place).toNat, by omega⟩
    rw [show (place - (place + (n : Int))).toNat = 0 by omega, show (place + (n : Int) - place).toNat = n by omega, Nat.shiftLeft_zero]
    have h := cut_near neg mag n
    generalize Toward.even.cut neg mag n = k at *
    obtain ⟨h1, h2⟩ := h
    have e1 : two (place + (n : Int)) = two place * ((2 ^ n : Nat) : Rat) := by rw [two_add, two_nat]
    have e2 : two (place + (n : Int)) = 2 * two (place + (n : Int) - 1) := by
      rw [show place + (n : Int) = (place + (n : Int) - 1) + 1 by omega, two_add]
      have : two 1 = 2 := by unfold two; rfl
      rw [this, show place + (n : Int) - 1 + 1 - 1 = place + (n : Int) - 1 by omega]; grind
    have hp := two_pos place
    have q1 : (2 : Rat) * ((k : Rat) * ((2 ^ n : Nat) : Rat)) ≤ 2 * (mag : Rat) + ((2 ^ n : Nat) : Rat) := by exact_mod_cast h1
    have q2 : (2 : Rat) * (mag : Rat) ≤ 2 * ((k : Rat) * ((2 ^ n : Nat) : Rat)) + ((2 ^ n : Nat) : Rat) := by exact_mod_cast h2
    generalize ((2 ^ n : Nat) : Rat) = G at *
    have r1 := Rat.mul_le_mul_of_nonneg_right q1 (Rat.le_of_lt hp)
    have r2 := Rat.mul_le_mul_of_nonneg_right q2 (Rat.le_of_lt hp)
    rw [e1] at e2 ⊢
    generalize two (place + (n : Int) - 1) = H at *
    generalize two place = T at *
    constructor <;> grind
theorem kept_bounds (neg : Bool) (mag : Nat) (place : Int) (h : mag ≠ 0) :
    ukept neg mag place ≤ 2 ^ 53 ∧ (-1074 < ulast mag place → 2 ^ 52 ≤ ukept neg mag place) := by
  have l1 : 2 ^ mag.log2 ≤ mag := Nat.log2_self_le h
  have l2 : mag < 2 ^ (mag.log2 + 1) := Nat.lt_log2_self
  unfold ukept
  have hl : ulast mag place = max (place + mag.log2 - 52) (-1074) := rfl
  generalize ulast mag place = last at *
  by_cases hp : last ≤ place
  · obtain ⟨n, hn⟩ : ∃ n : Nat, place = last + n := ⟨(place - last).toNat, by omega⟩
    rw [show (last - place).toNat = 0 by omega, cut_zero, show (place - last).toNat = n by omega, Nat.shiftLeft_eq]
    constructor
    · have : mag * 2 ^ n ≤ 2 ^ (mag.log2 + 1) * 2 ^ n := Nat.mul_le_mul_right _ (Nat.le_of_lt l2)
      rw [← Nat.pow_add] at this
      exact Nat.le_trans this (Nat.pow_le_pow_right (by decide) (by omega))
    · intro hk
      have : 2 ^ mag.log2 * 2 ^ n ≤ mag * 2 ^ n := Nat.mul_le_mul_right _ l1
      rw [← Nat.pow_add] at this
      exact Nat.le_trans (Nat.pow_le_pow_right (by decide) (by omega)) this
  · obtain ⟨n, hn⟩ : ∃ n : Nat, last = place + n := ⟨(last - place).toNat, by omega⟩
    rw [show (place - last).toNat = 0 by omega, show (last - place).toNat = n by omega, Nat.shiftLeft_zero]
    obtain ⟨h1, h2⟩ := cut_near neg mag n
    generalize Toward.even.cut neg mag n = k at *
    have hg : 0 < 2 ^ n := Nat.two_pow_pos n
    constructor
    · have hm : mag < 2 ^ 53 * 2 ^ n := by
        rw [← Nat.pow_add]
        exact Nat.lt_of_lt_of_le l2 (Nat.pow_le_pow_right (by decide) (by omega))
      have : ¬ 2 ^ 53 + 1 ≤ k := by
        intro hk
        have := Nat.mul_le_mul_right (2 ^ n) hk
        rw [Nat.add_mul] at this
        omega
      omega
    · intro hk
      have hm : 2 ^ 52 * 2 ^ n ≤ mag := by
        rw [← Nat.pow_add]
        exact Nat.le_trans (Nat.pow_le_pow_right (by decide) (by omega)) l1
      have : ¬ k + 1 ≤ 2 ^ 52 := by
        intro hk
        have := Nat.mul_le_mul_right (2 ^ n) hk
        rw [Nat.add_mul] at this
        omega
      omega
theorem read_word (s : Bool) (r : Nat) (h : r < 2047 * 2 ^ 52) :
    F.read (F.word s r) = if r < 2 ^ 52 then .number s r (-1074) else .number s (2 ^ 52 + r % 2 ^ 52) (-1074 + (r / 2 ^ 52 - 1 : Nat)) := by
  have e1 : (F.word s r / F.signWeight % 2 == 1) = s := by
    cases s
    · show (r / 2 ^ 63 % 2 == 1) = false
      rw [Nat.div_eq_of_lt (by omega)]; rfl
    · show ((2 ^ 63 + r) / 2 ^ 63 % 2 == 1) = true
      rw [show (2 ^ 63 + r) / 2 ^ 63 = 1 by omega]; rfl
  have e2 : F.word s r % F.signWeight = r := by
    cases s
    · show r % 2 ^ 63 = r
      omega
    · show (2 ^ 63 + r) % 2 ^ 63 = r
      omega
  unfold Format.read
  dsimp only
  rw [e1, e2]
  show (if r < 2 ^ 52 then _ else if r < 2047 * 2 ^ 52 then _ else _) = _
  rw [if_pos h]
  rfl
def sg (s : Bool) : Rat := if s then -1 else 1
/-- a datum's value (0 where it is no number) -/
def dval : Datum → Rat
  | .number s m p => sg s * (m : Rat) * two p
  | _ => 0
def isNum : Datum → Prop
  | .number _ _ _ => True
  | _ => False
def val (x : Nat) : Rat := dval (F.read x)
def fin (x : Nat) : Prop := isNum (F.read x)
theorem read_kept (s : Bool) (t k : Nat) (hk : k ≤ 2 ^ 53) (hl : 0 < t → 2 ^ 52 ≤ k) (ht : t ≤ 2044) :
    fin (F.word s (t * 2 ^ 52 + k)) ∧ val (F.word s (t * 2 ^ 52 + k)) = sg s * (k : Rat) * two (-1074 + t) := by
  have hr : t * 2 ^ 52 + k < 2047 * 2 ^ 52 := by omega
  unfold fin val
  rw [read_word s _ hr]
  by_cases h1 : t * 2 ^ 52 + k < 2 ^ 52
  · rw [if_pos h1]
    have : t = 0 := by omega
    subst this
    refine ⟨trivial, ?_⟩
    simp [dval]
  · rw [if_neg h1]
    refine ⟨trivial, ?_⟩
    show sg s * ((2 ^ 52 + (t * 2 ^ 52 + k) % 2 ^ 52 : Nat) : Rat) * two _ = _
    by_cases h2 : k = 2 ^ 53
    · subst h2
      have e1 : 2 ^ 52 + (t * 2 ^ 52 + 2 ^ 53) % 2 ^ 52 = 2 ^ 52 := by omega
      have e2 : (t * 2 ^ 52 + 2 ^ 53) / 2 ^ 52 - 1 = t + 1 := by omega
      rw [e1, e2, show (-1074 + ((t + 1 : Nat) : Int)) = (-1074 + (t : Int)) + 1 by omega, two_add (-1074 + (t : Int)) 1]
      have : two 1 = 2 := by unfold two; rfl
      rw [this]
      have e3 : ((2 ^ 53 : Nat) : Rat) = 2 * ((2 ^ 52 : Nat) : Rat) := by norm_cast
      rw [e3]; grind
    · have hk2 : 2 ^ 52 ≤ k := by omega
      have e1 : 2 ^ 52 + (t * 2 ^ 52 + k) % 2 ^ 52 = k := by omega
      have e2 : (t * 2 ^ 52 + k) / 2 ^ 52 - 1 = t := by omega
      rw [e1, e2]
theorem word_zero (s : Bool) : fin (F.word s 0) ∧ val (F.word s 0) = 0 := by
  have := read_kept s 0 0 (by decide) (by decide) (by decide)
  simpa using this
/-- THE ROUNDING: below 2^1023 the result is finite, and off by at most half a unit of its last place -/
theorem nearest_val (s : Bool) (mag : Nat) (place : Int) (h : mag ≠ 0) (hb : place + mag.log2 ≤ 1022) :
    fin (F.nearest s mag place) ∧ val (F.nearest s mag place) = sg s * ((ukept s mag place : Rat) * two (ulast mag place)) := by
  rw [nearest_eq s mag place h]
  obtain ⟨k1, k2⟩ := kept_bounds s mag place h
  have hl : ulast mag place = max (place + mag.log2 - 52) (-1074) := rfl
  obtain ⟨t, ht⟩ : ∃ t : Nat, ulast mag place = -1074 + t := ⟨(ulast mag place + 1074).toNat, by omega⟩
  have ht2 : t ≤ 2044 := by omega
  have e : (ulast mag place + 1074).toNat = t := by omega
  rw [e, Nat.min_eq_left (by omega)]
  have := read_kept s t (ukept s mag place) k1 (fun h0 => k2 (by omega)) ht2
  rw [ht]
  refine ⟨this.1, ?_⟩
  rw [this.2]; grind
theorem two_lt_inv {p q : Int} (h : two p < two q) : p < q := by
  by_cases c : p < q
  · exact c
  · have := two_mono (show q ≤ p by omega)
    exact absurd h (Rat.not_lt.2 this)
theorem log_bound {mag : Nat} {place : Int} {e : Int} (h : mag ≠ 0) (hb : (mag : Rat) * two place < two e) : place + mag.log2 < e := by
  apply two_lt_inv
  have l1 : 2 ^ mag.log2 ≤ mag := Nat.log2_self_le h
  have l2 : ((2 ^ mag.log2 : Nat) : Rat) ≤ (mag : Rat) := by exact_mod_cast l1
  rw [two_add, two_nat]
  have := Rat.mul_le_mul_of_nonneg_right l2 (Rat.le_of_lt (two_pos place))
  grind
def uu : Rat := two (-53)
def eta : Rat := two (-1075)
theorem uu_pos : 0 < uu := two_pos _
theorem eta_pos : 0 < eta := two_pos _
theorem half_last (mag : Nat) (place : Int) (h : mag ≠ 0) : two (ulast mag place - 1) ≤ uu * ((mag : Rat) * two place) + eta := by
  have l1 : 2 ^ mag.log2 ≤ mag := Nat.log2_self_le h
  have l2 : ((2 ^ mag.log2 : Nat) : Rat) ≤ (mag : Rat) := by exact_mod_cast l1
  have hl : ulast mag place = max (place + mag.log2 - 52) (-1074) := rfl
  have h1 := Rat.mul_le_mul_of_nonneg_right l2 (Rat.le_of_lt (two_pos place))
  have h2 := Rat.mul_le_mul_of_nonneg_left h1 (Rat.le_of_lt uu_pos)
  have h3 := eta_pos
  have h4 : 0 ≤ uu * ((mag : Rat) * two place) := by
    refine Rat.mul_nonneg (Rat.le_of_lt uu_pos) (Rat.mul_nonneg ?_ (Rat.le_of_lt (two_pos _)))
    exact_mod_cast Nat.zero_le mag
  by_cases c : place + mag.log2 - 52 ≤ -1074
  · have : ulast mag place - 1 = -1075 := by omega
    rw [this]
    have : two (-1075) = eta := rfl
    grind
  · have : ulast mag place - 1 = -53 + ((mag.log2 : Int) + place) := by omega
    rw [this, two_add, two_add, two_nat]
    have : two (-53) = uu := rfl
    rw [this]
    grind
/-- |a - b| ≤ c -/
def Near (a b c : Rat) : Prop := a ≤ b + c ∧ b ≤ a + c
theorem sg_abs (s : Bool) (r : Rat) (B : Rat) (h0 : 0 ≤ r) (h : r ≤ B) : -B ≤ sg s * r ∧ sg s * r ≤ B := by
  cases s <;> simp only [sg] <;> constructor <;> grind
theorem nearest_near (s : Bool) (mag : Nat) (place : Int) (B : Rat) (hm : (mag : Rat) * two place ≤ B) (hB : B < two 1023) :
    fin (F.nearest s mag place) ∧ Near (val (F.nearest s mag place)) (sg s * (mag : Rat) * two place) (uu * B + eta) := by
  have u0 := uu_pos
  have e0 := eta_pos
  have m0 : (0 : Rat) ≤ (mag : Rat) * two place := Rat.mul_nonneg (by exact_mod_cast Nat.zero_le mag) (Rat.le_of_lt (two_pos _))
  have hub : uu * ((mag : Rat) * two place) ≤ uu * B := Rat.mul_le_mul_of_nonneg_left hm (Rat.le_of_lt u0)
  have hub0 : 0 ≤ uu * ((mag : Rat) * two place) := Rat.mul_nonneg (Rat.le_of_lt u0) m0
  by_cases h : mag = 0
  · subst h
    have : F.nearest s 0 place = F.word s 0 := by unfold Format.nearest; rw [if_pos rfl]
    rw [this]
    refine ⟨(word_zero s).1, ?_⟩
    rw [(word_zero s).2]
    unfold Near
    simp only [Rat.natCast_ofNat, Rat.mul_zero, Rat.zero_mul] at *
    grind
  · have hb := log_bound h (show (mag : Rat) * two place < two 1023 by grind)
    obtain ⟨n1, n2⟩ := nearest_val s mag place h (by omega)
    refine ⟨n1, ?_⟩
    rw [n2]
    obtain ⟨k1, k2⟩ := kept_err s mag place
    have hh := half_last mag place h
    generalize (ukept s mag place : Rat) * two (ulast mag place) = K at *
    generalize two (ulast mag place - 1) = H at *
    unfold Near
    rw [Rat.mul_assoc]
    generalize (mag : Rat) * two place = R at *
    cases s <;> simp only [sg] <;> constructor <;> grind
/-! ### the operations -/
theorem write_near (d : Datum) (hd : isNum d) (B : Rat) (h1 : -B ≤ dval d) (h2 : dval d ≤ B) (hB : B < two 1023) :
    fin (F.write d) ∧ Near (val (F.write d)) (dval d) (uu * B + eta) := by
  cases d with
  | infinity s => exact hd.elim
  | nan s f => exact hd.elim
  | number s m p =>
    have m0 : (0 : Rat) ≤ (m : Rat) * two p := Rat.mul_nonneg (by exact_mod_cast Nat.zero_le m) (Rat.le_of_lt (two_pos _))
    refine nearest_near s m p B ?_ hB
    simp only [dval] at h1 h2
    rw [Rat.mul_assoc] at h1 h2
    generalize (m : Rat) * two p = R at *
    cases s <;> simp only [sg] at h1 h2 <;> grind
theorem signed_val (s : Bool) (m k : Nat) : ((signed s m k : Int) : Rat) = sg s * (m : Rat) * ((2 ^ k : Nat) : Rat) := by
  unfold signed
  rw [Nat.shiftLeft_eq]
  cases s
  · simp only [sg, Bool.false_eq_true, if_false]; push_cast; grind
  · simp only [sg, if_true]; push_cast; grind
theorem dval_total (b : Bool) (t : Int) (p : Int) (hs : (t < 0 → b = true) ∧ (0 < t → b = false)) : dval (.number b t.natAbs p) = (t : Rat) * two p := by
  show sg b * ((t.natAbs : Nat) : Rat) * two p = _
  have : sg b * ((t.natAbs : Nat) : Rat) = (t : Rat) := by
    rcases Int.lt_trichotomy t 0 with h | h | h
    · rw [hs.1 h]
      have e : (t.natAbs : Int) = -t := by omega
      have e2 : ((t.natAbs : Nat) : Rat) = -(t : Rat) := by
        have : (((t.natAbs : Nat) : Int) : Rat) = ((-t : Int) : Rat) := by rw [e]
        rw [Rat.intCast_natCast] at this; rw [this]; push_cast; rfl
      rw [e2]; simp only [sg, if_true]; grind
    · subst h; simp
    · rw [hs.2 h]
      have e : (t.natAbs : Int) = t := by omega
      have e2 : ((t.natAbs : Nat) : Rat) = (t : Rat) := by
        have : (((t.natAbs : Nat) : Int) : Rat) = ((t : Int) : Rat) := by rw [e]
        rw [Rat.intCast_natCast] at this; exact this
      rw [e2]; simp only [sg]; grind
  rw [this]
theorem two_split (p base : Int) (h : base ≤ p) : two p = ((2 ^ (p - base).toNat : Nat) : Rat) * two base := by
  have : p = ((p - base).toNat : Int) + base := by omega
  rw [this, two_add, two_nat, show (((p - base).toNat : Int) + base - base).toNat = (p - base).toNat by omega]
/-- the exact sum -/
theorem sum_val (a b : Datum) (ha : isNum a) (hb : isNum b) : ∃ d, a.sum b = some d ∧ isNum d ∧ dval d = dval a + dval b := by
  cases a with
  | infinity s => exact ha.elim
  | nan s f => exact ha.elim
  | number s m i =>
    cases b with
    | infinity s => exact hb.elim
    | nan s f => exact hb.elim
    | number t n j =>
      refine ⟨_, rfl, trivial, ?_⟩
      generalize hT : signed s m (i - min i j).toNat + signed t n (j - min i j).toNat = T
      have : dval (.number (if T = 0 then s && t else decide (T < 0)) T.natAbs (min i j)) = (T : Rat) * two (min i j) := by
        apply dval_total
        constructor
        · intro h; rw [if_neg (by omega)]; simpa using h
        · intro h; rw [if_neg (by omega)]; simp; omega
      rw [this, ← hT]
      push_cast
      rw [signed_val, signed_val, Rat.add_mul]
      show _ = sg s * (m : Rat) * two i + sg t * (n : Rat) * two j
      rw [two_split i (min i j) (by omega), two_split j (min i j) (by omega)]
      grind
theorem sg_xor (s t : Bool) : sg (s ^^ t) = sg s * sg t := by cases s <;> cases t <;> simp [sg] <;> grind
theorem prod_val (a b : Datum) (ha : isNum a) (hb : isNum b) : ∃ d, a.product b = some d ∧ isNum d ∧ dval d = dval a * dval b := by
  cases a with
  | infinity s => exact ha.elim
  | nan s f => exact ha.elim
  | number s m i =>
    cases b with
    | infinity s => exact hb.elim
    | nan s f => exact hb.elim
    | number t n j =>
      refine ⟨_, rfl, trivial, ?_⟩
      show sg (s ^^ t) * ((m * n : Nat) : Rat) * two (i + j) = (sg s * (m : Rat) * two i) * (sg t * (n : Rat) * two j)
      rw [sg_xor, two_add]; push_cast; grind
theorem opp_val (a : Datum) (ha : isNum a) : isNum a.opposite ∧ dval a.opposite = - dval a := by
  cases a with
  | infinity s => exact ha.elim
  | nan s f => exact ha.elim
  | number s m i =>
    refine ⟨trivial, ?_⟩
    show sg (!s) * _ * _ = -(sg s * _ * _)
    cases s <;> simp [sg] <;> grind
theorem add_near (x y : Nat) (hx : fin x) (hy : fin y) (B : Rat) (h1 : -B ≤ val x + val y) (h2 : val x + val y ≤ B) (hB : B < two 1023) :
    ∃ r, floatBits .add .f64 x y = some r ∧ fin r ∧ Near (val r) (val x + val y) (uu * B + eta) := by
  obtain ⟨d, e1, e2, e3⟩ := sum_val _ _ hx hy
  have := write_near d e2 B (by rw [e3]; exact h1) (by rw [e3]; exact h2) hB
  rw [e3] at this
  refine ⟨F.write d, ?_, this⟩
  show ((F.read x).sum (F.read y)).map F.write = _
  rw [e1]; rfl
theorem sub_near (x y : Nat) (hx : fin x) (hy : fin y) (B : Rat) (h1 : -B ≤ val x - val y) (h2 : val x - val y ≤ B) (hB : B < two 1023) :
    ∃ r, floatBits .sub .f64 x y = some r ∧ fin r ∧ Near (val r) (val x - val y) (uu * B + eta) := by
  obtain ⟨o1, o2⟩ := opp_val _ hy
  obtain ⟨d, e1, e2, e3⟩ := sum_val _ _ hx o1
  rw [o2] at e3
  have e4 : dval d = val x - val y := by rw [e3]; unfold val; grind
  have := write_near d e2 B (by rw [e4]; exact h1) (by rw [e4]; exact h2) hB
  rw [e4] at this
  refine ⟨F.write d, ?_, this⟩
  show ((F.read x).sum (F.read y).opposite).map F.write = _
  rw [e1]; rfl
theorem mul_near (x y : Nat) (hx : fin x) (hy : fin y) (B : Rat) (h1 : -B ≤ val x * val y) (h2 : val x * val y ≤ B) (hB : B < two 1023) :
    ∃ r, floatBits .mul .f64 x y = some r ∧ fin r ∧ Near (val r) (val x * val y) (uu * B + eta) := by
  obtain ⟨d, e1, e2, e3⟩ := prod_val _ _ hx hy
  have := write_near d e2 B (by rw [e3]; exact h1) (by rw [e3]; exact h2) hB
  rw [e3] at this
  refine ⟨F.write d, ?_, this⟩
  show ((F.read x).product (F.read y)).map F.write = _
  rw [e1]; rfl
/-- the order of two finite words is the order of their values -/
theorem order_val (x y : Nat) (hx : fin x) (hy : fin y) :
    (F.order x y = some .lt ↔ val x < val y) ∧ (F.order x y = some .eq ↔ val x = val y) ∧ (F.order x y = some .gt ↔ val y < val x) := by
  unfold fin val at *
  unfold Format.order
  generalize F.read x = a at *
  generalize F.read y = b at *
  cases a with
  | infinity s => exact hx.elim
  | nan s f => exact hx.elim
  | number s m i =>
    cases b with
    | infinity s => exact hy.elim
    | nan s f => exact hy.elim
    | number t n j =>
      have q1 : dval (.number s m i) = ((signed s m (i - min i j).toNat : Int) : Rat) * two (min i j) := by
        show sg s * (m : Rat) * two i = _
        rw [signed_val, two_split i (min i j) (by omega)]; grind
      have q2 : dval (.number t n j) = ((signed t n (j - min i j).toNat : Int) : Rat) * two (min i j) := by
        show sg t * (n : Rat) * two j = _
        rw [signed_val, two_split j (min i j) (by omega)]; grind
      rw [q1, q2]
      show (some (compare _ _) = _ ↔ _) ∧ (some (compare _ _) = _ ↔ _) ∧ (some (compare _ _) = _ ↔ _)
      generalize signed s m (i - min i j).toNat = A
      generalize signed t n (j - min i j).toNat = C
      have hp := two_pos (min i j)
      generalize two (min i j) = T at *
      have c : ∀ a c : Int, ((a : Rat) * T < (c : Rat) * T) ↔ a < c := by
        intro a c
        rw [Rat.mul_lt_mul_right hp]
        exact_mod_cast Iff.rfl
      have c2 : ((A : Rat) * T = (C : Rat) * T) ↔ A = C := by
        constructor
        · intro h
          rcases Int.lt_trichotomy A C with l | l | l
          · have := (c A C).2 l; rw [h] at this; exact absurd this Rat.lt_irrefl
          · exact l
          · have := (c C A).2 l; rw [h] at this; exact absurd this Rat.lt_irrefl
        · intro h; rw [h]
      rw [c, c, c2]
      simp only [Option.some.injEq]
      refine ⟨?_, ?_, ?_⟩
      · exact Int.compare_eq_lt
      · exact Int.compare_eq_eq
      · exact Int.compare_eq_gt
theorem fin_num {x : Nat} (h : fin x) : ∃ s m p, F.read x = .number s m p ∧ m < 2 ^ 53 ∧ -1074 ≤ p ∧ p ≤ 971 ∧ (m < 2 ^ 52 → p = -1074) := by
  unfold fin Format.read at *
  dsimp only at *
  generalize (x / F.signWeight % 2 == 1) = s at *
  have hr : x % F.signWeight < 2 ^ 63 := Nat.mod_lt _ (by decide)
  generalize x % F.signWeight = r at *
  rw [show F.binade = 2 ^ 52 from rfl, show F.infRung = 2047 * 2 ^ 52 from rfl] at *
  by_cases h1 : r < 2 ^ 52
  · rw [if_pos h1] at *
    exact ⟨s, r, F.leastPlace, rfl, by omega, by decide, by decide, fun _ => by decide⟩
  · rw [if_neg h1] at *
    by_cases h2 : r < 2047 * 2 ^ 52
    · rw [if_pos h2] at *
      refine ⟨s, _, _, rfl, by omega, ?_, ?_, by omega⟩ <;> rw [show F.leastPlace = -1074 by decide] <;> omega
    · rw [if_neg h2] at *
      split at h
      · exact h.elim
      · exact h.elim
theorem quot_val (a b : Datum) {s t : Bool} {m n : Nat} {i j : Int} (ha : a = .number s m i) (hb : b = .number t n j) (hm : m < 2 ^ 53) (hn : n ≠ 0) :
    ∃ d, a.quotient 54 b = some d ∧ isNum d ∧ ∃ e : Rat, dval d = dval a / dval b + e ∧ (∀ B, -B ≤ dval a / dval b → dval a / dval b ≤ B → Near e 0 (uu * B)) := by
  subst ha hb
  have hlm : m.log2 ≤ 52 := by
    by_cases h0 : m = 0
    · subst h0; decide
    · have := (Nat.log2_lt h0 (k := 53)).2 hm; omega
  have hl : 54 + n.log2 - m.log2 = 54 + n.log2 - m.log2 := rfl
  show ∃ d, (if n = 0 then if m = 0 then none else some (Datum.infinity (s ^^ t)) else some (.number (s ^^ t) (2 * (m <<< (54 + n.log2 - m.log2) / n) + (m <<< (54 + n.log2 - m.log2) % n != 0).toNat) (i - j - (54 + n.log2 - m.log2 : Nat) - 1))) = some d ∧ _
  rw [if_neg hn]
  refine ⟨_, rfl, trivial, ?_⟩
  generalize hmo : 54 + n.log2 - m.log2 = more
  rw [Nat.shiftLeft_eq]
  have hn0 : 0 < n := Nat.pos_of_ne_zero hn
  have dm := Nat.div_add_mod (m * 2 ^ more) n
  have rl := Nat.mod_lt (m * 2 ^ more) hn0
  generalize hD : m * 2 ^ more = D at *
  generalize hQ : D / n = q at *
  generalize hR : D % n = r at *
  have hd : dval (.number t n j) ≠ 0 := by
    show sg t * (n : Rat) * two j ≠ 0
    have h1 : (n : Rat) ≠ 0 := by exact_mod_cast hn
    have h2 := two_pos j
    cases t <;> simp only [sg] <;> intro h <;> rcases Rat.mul_eq_zero.1 h with h | h <;> (try rcases Rat.mul_eq_zero.1 h with h | h) <;> grind
  have hnq : (0 : Rat) < (n : Rat) := by exact_mod_cast hn0
  have key : dval (.number s m i) / dval (.number t n j) = sg (s ^^ t) * ((D : Rat) / (n : Rat)) * two (i - j - more) := by
    have e1 : dval (.number s m i) = (sg (s ^^ t) * ((D : Rat) / (n : Rat)) * two (i - j - more)) * dval (.number t n j) := by
      show sg s * (m : Rat) * two i = (sg (s ^^ t) * ((D : Rat) / (n : Rat)) * two (i - j - more)) * (sg t * (n : Rat) * two j)
      rw [sg_xor, ← hD]
      have e2 : two i = two (i - j - more) * two j * ((2 ^ more : Nat) : Rat) := by
        rw [← two_nat, ← two_add, ← two_add]; congr 1; omega
      have e3 : sg t * sg t = 1 := by cases t <;> simp [sg] <;> grind
      have e4 : ((m * 2 ^ more : Nat) : Rat) / (n : Rat) * (n : Rat) = (m : Rat) * ((2 ^ more : Nat) : Rat) := by
        rw [Rat.div_mul_cancel (by grind)]; push_cast; rfl
      rw [e2]
      generalize ((m * 2 ^ more : Nat) : Rat) / (n : Rat) = X at *
      generalize ((2 ^ more : Nat) : Rat) = Y at *
      generalize two (i - j - more) = A at *
      generalize two j = C at *
      have : sg s * sg t * X * A * (sg t * (n : Rat) * C) = sg s * (sg t * sg t) * (X * (n : Rat)) * A * C := by grind
      rw [this, e3, e4]; grind
    rw [e1, Rat.mul_div_cancel hd]
  have hv : dval (.number (s ^^ t) (2 * q + (r != 0).toNat) (i - j - (more : Int) - 1)) = sg (s ^^ t) * (((2 * q + (r != 0).toNat : Nat) : Rat) / 2) * two (i - j - more) := by
    show sg (s ^^ t) * ((2 * q + (r != 0).toNat : Nat) : Rat) * two (i - j - (more : Int) - 1) = _
    have : two (i - j - more) = 2 * two (i - j - (more : Int) - 1) := by
      rw [show i - j - (more : Int) = (i - j - (more : Int) - 1) + 1 by omega, two_add]
      have : two 1 = 2 := by unfold two; rfl
      rw [this, show i - j - (more : Int) - 1 + 1 - 1 = i - j - (more : Int) - 1 by omega]; grind
    rw [this]; grind
  rw [hv]
  refine ⟨sg (s ^^ t) * ((((2 * q + (r != 0).toNat : Nat) : Rat) / 2) - (D : Rat) / (n : Rat)) * two (i - j - more), ?_, ?_⟩
  · rw [key]; grind
  · intro B b1 b2
    rw [key] at b1 b2
    -- the quotient, between q and q + 1
    have f1 : (D : Rat) = (n : Rat) * (q : Rat) + (r : Rat) := by exact_mod_cast dm.symm
    have f2 : (r : Rat) < (n : Rat) := by exact_mod_cast rl
    have f3 : (0 : Rat) ≤ (r : Rat) := by exact_mod_cast Nat.zero_le r
    have f4 : (D : Rat) / (n : Rat) = (q : Rat) + (r : Rat) / (n : Rat) := by
      rw [f1]
      have : (n : Rat) * (q : Rat) / (n : Rat) = (q : Rat) := by rw [Rat.mul_comm, Rat.mul_div_cancel (by grind)]
      rw [Rat.div_def, Rat.add_mul, ← Rat.div_def, this, ← Rat.div_def]
    have f5 : (r : Rat) / (n : Rat) < 1 := by rw [Rat.div_lt_iff hnq]; grind
    have f6 : 0 ≤ (r : Rat) / (n : Rat) := by
      rw [Rat.div_def]; exact Rat.mul_nonneg f3 (Rat.le_of_lt (Rat.inv_pos.2 hnq))
    have hq0 : (0 : Rat) ≤ (q : Rat) := by exact_mod_cast Nat.zero_le q
    have tp := two_pos (i - j - more)
    -- the error is half at most
    have err : Near ((((2 * q + (r != 0).toNat : Nat) : Rat) / 2) - (D : Rat) / (n : Rat)) 0 (1 / 2) ∧ (r = 0 → (((2 * q + (r != 0).toNat : Nat) : Rat) / 2) - (D : Rat) / (n : Rat) = 0) := by
      rw [f4]
      by_cases hr0 : r = 0
      · subst hr0
        have : ((2 * q + ((0 : Nat) != 0).toNat : Nat) : Rat) = 2 * (q : Rat) := by push_cast; simp; exact Rat.add_zero _
        rw [this]
        have z : ((0 : Nat) : Rat) / (n : Rat) = 0 := by rw [Rat.div_def]; simp
        unfold Near
        refine ⟨?_, fun _ => ?_⟩ <;> grind
      · have : ((2 * q + (r != 0).toNat : Nat) : Rat) = 2 * (q : Rat) + 1 := by
          have : (r != 0) = true := by simpa using hr0
          rw [this]; push_cast; rfl
        rw [this]
        unfold Near
        refine ⟨?_, fun h => absurd h hr0⟩; grind
    by_cases hm0 : m = 0
    · have : D = 0 := by rw [← hD, hm0]; simp
      have r0 : r = 0 := by rw [← hR, this]; simp
      rw [err.2 r0]
      have hB : 0 ≤ B := by grind
      have := Rat.mul_nonneg (Rat.le_of_lt uu_pos) hB
      unfold Near; grind
    · -- q is at least 2^53 - 1.., so half a unit is little
      have hbig : (2 ^ 53 : Nat) * n ≤ D := by
        rw [← hD]
        have l1 := Nat.log2_self_le hm0
        have l2 : n < 2 ^ (n.log2 + 1) := Nat.lt_log2_self
        have l3 : 2 ^ 53 * n ≤ 2 ^ 53 * 2 ^ (n.log2 + 1) := Nat.mul_le_mul_left _ (Nat.le_of_lt l2)
        have l4 : 2 ^ m.log2 * 2 ^ more ≤ m * 2 ^ more := Nat.mul_le_mul_right _ l1
        rw [← Nat.pow_add] at l3 l4
        have : 53 + (n.log2 + 1) = m.log2 + more := by omega
        rw [this] at l3
        omega
      have g1 : (2 ^ 53 : Rat) * (n : Rat) ≤ (D : Rat) := by exact_mod_cast hbig
      have g2 : (2 ^ 53 : Rat) ≤ (D : Rat) / (n : Rat) := by
        have e : (D : Rat) / (n : Rat) * (n : Rat) = (D : Rat) := Rat.div_mul_cancel (by grind)
        refine Rat.le_of_mul_le_mul_right (c := (n : Rat)) ?_ hnq
        rw [e]; exact g1
      have g3 : uu * (2 ^ 53 : Rat) = 1 := by unfold uu two; decide +kernel
      generalize (((2 * q + (r != 0).toNat : Nat) : Rat) / 2) - (D : Rat) / (n : Rat) = E at *
      generalize (D : Rat) / (n : Rat) = X at *
      have hE := err.1
      have u0 := uu_pos
      have B1 : X * two (i - j - more) ≤ B := by
        cases hx : (s ^^ t) <;> simp only [hx, sg] at b1 b2 <;> grind
      have c1 := Rat.mul_le_mul_of_nonneg_left B1 (Rat.le_of_lt u0)
      have c2 := Rat.mul_le_mul_of_nonneg_left g2 (Rat.le_of_lt u0)
      have c3 := Rat.mul_le_mul_of_nonneg_right c2 (Rat.le_of_lt tp)
      rw [g3] at c3
      obtain ⟨h1, h2⟩ := hE
      have d1 := Rat.mul_le_mul_of_nonneg_right h1 (Rat.le_of_lt tp)
      have d2 := Rat.mul_le_mul_of_nonneg_right h2 (Rat.le_of_lt tp)
      generalize two (i - j - more) = T at *
      unfold Near
      cases hx : (s ^^ t) <;> simp only [sg] <;> constructor <;> grind
theorem near_trans {a b c d e : Rat} (h1 : Near a b d) (h2 : Near b c e) : Near a c (d + e) := by
  unfold Near at *; grind
theorem near_mono {a b d e : Rat} (h1 : Near a b d) (h2 : d ≤ e) : Near a b e := by
  unfold Near at *; grind
theorem div_near (x y : Nat) (hx : fin x) (hy : fin y) (h0 : val y ≠ 0) (B : Rat) (h1 : -B ≤ val x / val y) (h2 : val x / val y ≤ B) (hB : B < two 1022) :
    ∃ r, floatBits .quo .f64 x y = some r ∧ fin r ∧ Near (val r) (val x / val y) (3 * uu * B + eta) := by
  obtain ⟨s, m, i, ex, hm, -⟩ := fin_num hx
  obtain ⟨t, n, j, ey, hn, -⟩ := fin_num hy
  have hn0 : n ≠ 0 := by
    intro h; apply h0; unfold val; rw [ey, h]; simp [dval]
  obtain ⟨d, e1, e2, e, e3, e4⟩ := quot_val _ _ ex ey hm hn0
  have he := e4 B h1 h2
  have u0 := uu_pos
  have B0 : 0 ≤ B := by grind
  have uB := Rat.mul_nonneg (Rat.le_of_lt u0) B0
  have u1 : uu ≤ 1 / 2 := by unfold uu two; decide +kernel
  have uB2 := Rat.mul_le_mul_of_nonneg_right u1 B0
  have uuB := Rat.mul_le_mul_of_nonneg_left uB2 (Rat.le_of_lt u0)
  have ht : two 1023 = 2 * two 1022 := by rw [show (1023 : Int) = 1 + 1022 by decide, two_add]; rfl
  have ev : dval d = val x / val y + e := e3
  have := write_near d e2 (B + uu * B) (by rw [ev]; unfold Near at he; grind) (by rw [ev]; unfold Near at he; grind) (by rw [ht]; grind)
  refine ⟨F.write d, ?_, this.1, ?_⟩
  · show ((F.read x).quotient 54 (F.read y)).map F.write = _
    rw [e1]; rfl
  · have h := this.2
    rw [ev] at h
    unfold Near at h he ⊢
    constructor <;> grind
/-! ### exact results -/
theorem cut_exact (neg : Bool) (q drop : Nat) : Toward.even.cut neg (q * 2 ^ drop) drop = q := by
  have := cut_near neg (q * 2 ^ drop) drop
  generalize Toward.even.cut neg (q * 2 ^ drop) drop = k at *
  have hp : 0 < 2 ^ drop := Nat.two_pow_pos drop
  obtain ⟨h1, h2⟩ := this
  by_cases c : k ≤ q
  · by_cases c2 : q ≤ k
    · omega
    · have := Nat.mul_le_mul_right (2 ^ drop) (show k + 1 ≤ q by omega)
      rw [Nat.add_mul] at this
      omega
  · have := Nat.mul_le_mul_right (2 ^ drop) (show q + 1 ≤ k by omega)
    rw [Nat.add_mul] at this
    omega
theorem rat_two_cancel {a b : Nat} {p : Int} (h : (a : Rat) * two p = (b : Rat) * two p) : a = b := by
  have hp := two_pos p
  rcases Nat.lt_trichotomy a b with l | l | l
  · have : (a : Rat) < (b : Rat) := by exact_mod_cast l
    have := Rat.mul_lt_mul_of_pos_right this hp
    rw [h] at this; exact absurd this Rat.lt_irrefl
  · exact l
  · have : (b : Rat) < (a : Rat) := by exact_mod_cast l
    have := Rat.mul_lt_mul_of_pos_right this hp
    rw [h] at this; exact absurd this Rat.lt_irrefl
/-- a number that the format has is written as itself -/
theorem nearest_exact (s : Bool) (mag : Nat) (place : Int) (k : Nat) (q : Int) (hk : k < 2 ^ 53) (hq : -1074 ≤ q) (hq2 : q ≤ 970)
    (h : (mag : Rat) * two place = (k : Rat) * two q) :
    fin (F.nearest s mag place) ∧ val (F.nearest s mag place) = sg s * (mag : Rat) * two place := by
  by_cases hm : mag = 0
  · subst hm
    have : F.nearest s 0 place = F.word s 0 := by unfold Format.nearest; rw [if_pos rfl]
    rw [this]
    refine ⟨(word_zero s).1, ?_⟩
    rw [(word_zero s).2]; simp
  · have hk0 : k ≠ 0 := by
      intro h0; subst h0
      have hp := two_pos place
      have : (0 : Rat) < (mag : Rat) := by exact_mod_cast Nat.pos_of_ne_zero hm
      have := Rat.mul_pos this hp
      rw [h] at this; simp at this
    -- the leading places agree
    have hlk : k.log2 ≤ 52 := by have := (Nat.log2_lt hk0 (k := 53)).2 hk; omega
    have lead : place + mag.log2 < q + k.log2 + 1 := by
      apply log_bound hm
      rw [h]
      have l2 : k < 2 ^ (k.log2 + 1) := Nat.lt_log2_self
      have l3 : (k : Rat) < ((2 ^ (k.log2 + 1) : Nat) : Rat) := by exact_mod_cast l2
      have := Rat.mul_lt_mul_of_pos_right l3 (two_pos q)
      rw [← two_nat, ← two_add] at this
      rw [show q + (k.log2 : Int) + 1 = ((k.log2 + 1 : Nat) : Int) + q by omega]
      exact this
    obtain ⟨n1, n2⟩ := nearest_val s mag place hm (by omega)
    refine ⟨n1, ?_⟩
    rw [n2, Rat.mul_assoc]
    congr 1
    have hl : ulast mag place = max (place + mag.log2 - 52) (-1074) := rfl
    have hlq : ulast mag place ≤ q := by omega
    unfold ukept
    generalize ulast mag place = last at *
    by_cases hp : last ≤ place
    · obtain ⟨n, rfl⟩ : ∃ n : Nat, place = last + n := ⟨(place - last).toNat, by omega⟩
      rw [show (last - (last + (n : Int))).toNat = 0 by omega, cut_zero, show (last + (n : Int) - last).toNat = n by omega, Nat.shiftLeft_eq, two_add, two_nat]
      push_cast; grind
    · obtain ⟨n, hn⟩ : ∃ n : Nat, last = place + n := ⟨(last - place).toNat, by omega⟩
      rw [show (place - last).toNat = 0 by omega, show (last - place).toNat = n by omega, Nat.shiftLeft_zero]
      obtain ⟨c, hc⟩ : ∃ c : Nat, q = last + c := ⟨(q - last).toNat, by omega⟩
      have e : mag = (k * 2 ^ c) * 2 ^ n := by
        apply rat_two_cancel (p := place)
        rw [h, hc, hn, two_add, two_add, two_nat, two_nat]
        push_cast; grind
      rw [e, cut_exact, hn, two_add, two_nat]
      push_cast; grind
/-- -b ≤ a ≤ b -/
def Abs (a b : Rat) : Prop := -b ≤ a ∧ a ≤ b
theorem abs_mul {a b A B : Rat} (ha : Abs a A) (hb : Abs b B) : Abs (a * b) (A * B) := by
  unfold Abs at *
  have h1 := Rat.mul_nonneg (show 0 ≤ A - a by grind) (show 0 ≤ B + b by grind)
  have h2 := Rat.mul_nonneg (show 0 ≤ A + a by grind) (show 0 ≤ B - b by grind)
  have h3 := Rat.mul_nonneg (show 0 ≤ A - a by grind) (show 0 ≤ B - b by grind)
  have h4 := Rat.mul_nonneg (show 0 ≤ A + a by grind) (show 0 ≤ B + b by grind)
  constructor <;> grind
theorem uu_val : uu = 1 / 9007199254740992 := by unfold uu two; decide +kernel
theorem eta_small : eta ≤ 1 / 10 ^ 320 := by unfold eta two; decide +kernel
def Row (m0 m1 m2 x y z r : Nat) : Prop := ∃ p0 p1 s p2, floatBits .mul .f64 x m0 = some p0 ∧ floatBits .mul .f64 y m1 = some p1 ∧ floatBits .add .f64 p0 p1 = some s ∧ floatBits .mul .f64 z m2 = some p2 ∧ floatBits .add .f64 s p2 = some r
theorem t1000 : 20 * (two 1000) + 1 < two 1023 := by unfold two; decide +kernel
theorem row_near (m0 m1 m2 x y z : Nat) (k0 : fin m0) (k1 : fin m1) (k2 : fin m2) (fx : fin x) (fy : fin y) (fz : fin z)
    (b0 : Abs (val m0) 4) (b1 : Abs (val m1) 4) (b2 : Abs (val m2) 4) (B : Rat) (hx : Abs (val x) B) (hy : Abs (val y) B) (hz : Abs (val z) B) (hB : B ≤ two 1000) :
    ∃ r, Row m0 m1 m2 x y z r ∧ fin r ∧ Near (val r) (val x * val m0 + val y * val m1 + val z * val m2) (40 * uu * B + 10 * eta) := by
  have q0 := abs_mul hx b0
  have q1 := abs_mul hy b1
  have q2 := abs_mul hz b2
  have T := t1000
  have e0 := eta_pos
  have e1 : eta ≤ 1 / 100 := by have := eta_small; grind
  have hB0 : 0 ≤ B := by unfold Abs at hx; grind
  unfold Abs at q0 q1 q2
  obtain ⟨p0, f0, g0, n0⟩ := mul_near x m0 fx k0 (B * 4) q0.1 q0.2 (by grind)
  obtain ⟨p1, f1, g1, n1⟩ := mul_near y m1 fy k1 (B * 4) q1.1 q1.2 (by grind)
  obtain ⟨p2, f2, g2, n2⟩ := mul_near z m2 fz k2 (B * 4) q2.1 q2.2 (by grind)
  unfold Near at n0 n1 n2
  rw [uu_val] at n0 n1 n2
  obtain ⟨s, f3, g3, n3⟩ := add_near p0 p1 g0 g1 (10 * B + 4 * eta) (by grind) (by grind) (by grind)
  unfold Near at n3
  rw [uu_val] at n3
  obtain ⟨r, f4, g4, n4⟩ := add_near s p2 g3 g2 (16 * B + 10 * eta) (by grind) (by grind) (by grind)
  unfold Near at n4
  rw [uu_val] at n4
  refine ⟨r, ⟨p0, p1, s, p2, f0, f1, f3, f2, f4⟩, g4, ?_⟩
  unfold Near
  rw [uu_val]
  constructor <;> grind
def ltB (a b : Nat) : Bool := FloatKind.f64.format.order a b == some .lt
def leB (a b : Nat) : Bool := FloatKind.f64.format.order a b == some .lt || FloatKind.f64.format.order a b == some .eq
def geB (a b : Nat) : Bool := FloatKind.f64.format.order a b == some .gt || FloatKind.f64.format.order a b == some .eq
def gtB (a b : Nat) : Bool := FloatKind.f64.format.order a b == some .gt
def eqB (a b : Nat) : Bool := FloatKind.f64.format.order a b == some .eq
def negB (x : Nat) : Nat := Op.negFloat .f64 x
def absB (d : Nat) : Nat := if ltB d 0 then negB d else d
theorem rat_tri (a b : Rat) : a < b ∨ a = b ∨ b < a := by grind
theorem leB_iff {x y : Nat} (hx : fin x) (hy : fin y) : leB x y = true ↔ val x ≤ val y := by
  obtain ⟨h1, h2, h3⟩ := order_val x y hx hy
  unfold leB
  show (F.order x y == some .lt || F.order x y == some .eq) = true ↔ _
  rw [Bool.or_eq_true, beq_iff_eq, beq_iff_eq, h1, h2]
  constructor <;> grind
theorem geB_iff {x y : Nat} (hx : fin x) (hy : fin y) : geB x y = true ↔ val y ≤ val x := by
  obtain ⟨h1, h2, h3⟩ := order_val x y hx hy
  unfold geB
  show (F.order x y == some .gt || F.order x y == some .eq) = true ↔ _
  rw [Bool.or_eq_true, beq_iff_eq, beq_iff_eq, h3, h2]
  constructor <;> grind
theorem ltB_iff {x y : Nat} (hx : fin x) (hy : fin y) : ltB x y = true ↔ val x < val y := by
  obtain ⟨h1, h2, h3⟩ := order_val x y hx hy
  unfold ltB
  show (F.order x y == some .lt) = true ↔ _
  rw [beq_iff_eq, h1]
theorem gtB_iff {x y : Nat} (hx : fin x) (hy : fin y) : gtB x y = true ↔ val y < val x := by
  obtain ⟨h1, h2, h3⟩ := order_val x y hx hy
  unfold gtB
  show (F.order x y == some .gt) = true ↔ _
  rw [beq_iff_eq, h3]
theorem eqB_iff {x y : Nat} (hx : fin x) (hy : fin y) : eqB x y = true ↔ val x = val y := by
  obtain ⟨h1, h2, h3⟩ := order_val x y hx hy
  unfold eqB
  show (F.order x y == some .eq) = true ↔ _
  rw [beq_iff_eq, h2]
/-- what lies between two finite words is finite -/
theorem fin_of_between {x a b : Nat} (ha : fin a) (hb : fin b) (h1 : geB x a = true) (h2 : leB x b = true) : fin x := by
  unfold geB at h1
  unfold leB at h2
  change (F.order x a == some .gt || F.order x a == some .eq) = true at h1
  change (F.order x b == some .lt || F.order x b == some .eq) = true at h2
  unfold fin Format.order at *
  cases hx : F.read x with
  | number s m p => trivial
  | nan s f => rw [hx] at h1; cases ha' : F.read a <;> rw [ha'] at h1 <;> simp [Datum.order] at h1
  | infinity s =>
    rw [hx] at h1 h2
    cases ha' : F.read a with
    | infinity t => rw [ha'] at ha; exact ha.elim
    | nan t f => rw [ha'] at ha; exact ha.elim
    | number t m p =>
      cases hb' : F.read b with
      | infinity t => rw [hb'] at hb; exact hb.elim
      | nan t f => rw [hb'] at hb; exact hb.elim
      | number t m p => rw [ha'] at h1; rw [hb'] at h2; cases s <;> simp [Datum.order] at h1 h2
/-- the sign turned -/
theorem negB_val {x : Nat} (hw : x < 2 ^ 64) (hx : fin x) : fin (negB x) ∧ val (negB x) = - val x := by
  have e : negB x = x ^^^ 2 ^ 63 := rfl
  have hr : F.read (negB x) = (F.read x).opposite := by
    rw [e]
    have hd : (x ^^^ 2 ^ 63) % 2 ^ 63 = x % 2 ^ 63 := by
      rw [Nat.xor_mod_two_pow]; simp
    have hq : (x ^^^ 2 ^ 63) / 2 ^ 63 % 2 = (x / 2 ^ 63 + 1) % 2 := by
      have h1 : (x ^^^ 2 ^ 63) / 2 ^ 63 = x / 2 ^ 63 ^^^ 1 := by
        rw [← Nat.shiftRight_eq_div_pow, Nat.shiftRight_xor_distrib, Nat.shiftRight_eq_div_pow]
        rfl
      rw [h1]
      have h2 : x / 2 ^ 63 < 2 := by omega
      have : x / 2 ^ 63 = 0 ∨ x / 2 ^ 63 = 1 := by omega
      rcases this with h | h <;> rw [h] <;> rfl
    have hs : ((x ^^^ 2 ^ 63) / 2 ^ 63 % 2 == 1) = !(x / 2 ^ 63 % 2 == 1) := by
      rw [hq]
      have : x / 2 ^ 63 = 0 ∨ x / 2 ^ 63 = 1 := by omega
      rcases this with h | h <;> rw [h] <;> rfl
    unfold Format.read
    dsimp only
    rw [show F.signWeight = 2 ^ 63 from rfl, hd, hs]
    split
    · rfl
    · split
      · rfl
      · split <;> rfl
  unfold fin val
  rw [hr]
  exact opp_val _ hx
theorem zero_fin : fin 0 ∧ val 0 = 0 := word_zero false
theorem wf_lt {x : Nat} (h : (Lit.float .f64 x).wf = true) : x < 2 ^ 64 := by simpa [Lit.wf] using h
theorem absB_val {x : Nat} (hw : x < 2 ^ 64) (hx : fin x) : fin (absB x) ∧ 0 ≤ val (absB x) ∧ Abs (val x) (val (absB x)) ∧ (val (absB x) = val x ∨ val (absB x) = - val x) := by
  have hz := ltB_iff hx zero_fin.1
  rw [zero_fin.2] at hz
  unfold absB
  by_cases h : ltB x 0 = true
  · rw [if_pos h]
    obtain ⟨n1, n2⟩ := negB_val hw hx
    have := hz.1 h
    unfold Abs
    rw [n2]
    refine ⟨n1, ?_, ?_, Or.inr rfl⟩ <;> grind
  · rw [if_neg h]
    have : ¬ val x < 0 := fun c => h (hz.2 c)
    unfold Abs
    refine ⟨hx, ?_, ?_, Or.inl rfl⟩ <;> grind
theorem bits_lt {op : BinOp} {x y r : Nat} (h : floatBits op .f64 x y = some r) : r < 2 ^ 64 := wf_lt (floatBits_wf h)
def finB (x : Nat) : Bool := match F.read x with | .number .. => true | _ => false
theorem fin_of {x : Nat} (h : finB x = true) : fin x := by
  unfold finB at h; unfold fin
  cases hx : F.read x with
  | number s m p => trivial
  | infinity s => rw [hx] at h; cases h
  | nan s f => rw [hx] at h; cases h
/-- a constant: finite, and its value -/
theorem const_val {x : Nat} {r : Rat} (h : finB x = true) (h2 : val x = r) : fin x ∧ val x = r := ⟨fin_of h, h2⟩
set_option maxRecDepth 100000 in
theorem c1e9 : fin 4741671816366391296 ∧ val 4741671816366391296 = 1000000000 := const_val (by decide +kernel) (by decide +kernel)
theorem zero_lt (n : Nat) : 0 ≤ n := Nat.zero_le n
end Go.Proofs.YtkbgkogfjfojgaaDoor.Flt
