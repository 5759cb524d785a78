/- Besides: what is no number, rounding keeps the order, the floor. Plain Lean. -/
import Derived.Test.YtkbgkogfjfojgaaDoorFlt
import Derived.WalkKit
namespace Go.Proofs.YtkbgkogfjfojgaaDoor.Flt
open Ieee Go
def isNan (x : Nat) : Prop := ∃ s f, F.read x = .nan s f
theorem nan_word (v : Nat) : isNan ((v % 2) * 2 ^ 63 + 0x7ff0000000000000 + 1 + (v / 2) % (2 ^ 52 - 1)) := by
  have hm : (v / 2) % (2 ^ 52 - 1) < 2 ^ 52 - 1 := Nat.mod_lt _ (by decide)
  generalize (v / 2) % (2 ^ 52 - 1) = m at *
  have hs : v % 2 < 2 := Nat.mod_lt _ (by decide)
  generalize v % 2 = s at *
  have hr : (s * 2 ^ 63 + 0x7ff0000000000000 + 1 + m) % 2 ^ 63 = 0x7ff0000000000000 + 1 + m := by omega
  unfold isNan Format.read
  dsimp only
  rw [show F.signWeight = 2 ^ 63 from rfl, hr, show F.binade = 2 ^ 52 from rfl, show F.infRung = 0x7ff0000000000000 from by decide]
  rw [if_neg (by omega), if_neg (by omega), if_neg (by omega)]
  exact ⟨_, _, rfl⟩
theorem nan_run {P : Program} (w : World) (op : BinOp) (t : TypeId) (x y : Nat) (ho : op = .add ∨ op = .sub ∨ op = .mul ∨ op = .quo) (h : floatBits op .f64 x y = none) :
    ∃ r, (binOp op t (.float .f64 x) (.float .f64 y)).run P w = .ok (.float .f64 r) w.drew ∧ isNan r ∧ r < 2 ^ 64 := by
  refine ⟨_, ?_, nan_word (w.tape w.drawn (.nanBits .f64 x y)), ?_⟩
  · rcases ho with rfl | rfl | rfl | rfl <;> simp [binOp, Op.floatArith, floatBits] at h ⊢ <;> simp [h] <;> (rw [if_neg (by simp [Question.forced])]; rfl)
  · omega
theorem nan_order {x y : Nat} (h : isNan x) : F.order x y = none := by
  obtain ⟨s, f, e⟩ := h
  unfold Format.order
  rw [e]
  cases F.read y <;> rfl
theorem nan_order' {x y : Nat} (h : isNan y) : F.order x y = none := by
  obtain ⟨s, f, e⟩ := h
  unfold Format.order
  rw [e]
  cases F.read x <;> rfl
theorem nan_eqB {x y : Nat} (h : isNan x) : eqB x y = false := by
  have := nan_order (y := y) h
  unfold eqB
  show (F.order x y == some .eq) = false
  rw [this]; rfl
/-- x - x of a finite x: zero -/
theorem sub_self' {x : Nat} (hx : fin x) : floatBits .sub .f64 x x = some 0 := by
  obtain ⟨s, m, p, e, -⟩ := fin_num hx
  show ((F.read x).sum (F.read x).opposite).map F.write = some 0
  rw [e]
  show (some (F.write (.number (if signed s m (p - min p p).toNat + signed (!s) m (p - min p p).toNat = 0 then s && !s else decide (signed s m (p - min p p).toNat + signed (!s) m (p - min p p).toNat < 0)) (signed s m (p - min p p).toNat + signed (!s) m (p - min p p).toNat).natAbs (min p p)))) = some 0
  have h0 : signed s m (p - min p p).toNat + signed (!s) m (p - min p p).toNat = 0 := by
    unfold signed; cases s <;> simp <;> omega
  rw [h0, if_pos rfl]
  cases s <;> rfl
theorem eqB_self {x : Nat} (hx : fin x) : eqB x x = true := (eqB_iff hx hx).2 rfl
/-- a word that is no number and no NaN: an infinity: the difference is no number -/
theorem sub_inf {x : Nat} (hx : ¬ fin x) (hn : ¬ isNan x) : floatBits .sub .f64 x x = none := by
  show ((F.read x).sum (F.read x).opposite).map F.write = none
  unfold fin at hx
  cases e : F.read x with
  | number s m p => rw [e] at hx; exact (hx trivial).elim
  | nan s f => exact (hn ⟨s, f, e⟩).elim
  | infinity s => cases s <;> rfl
theorem num_abs {y : Nat} (fy : fin y) : ∃ (s : Bool) (m : Nat) (q : Int), val y = sg s * ((m : Rat) * two q) ∧ m < 2 ^ 53 ∧ -1074 ≤ q := by
  obtain ⟨s, m, q, e, hm, hq, -⟩ := fin_num fy
  exact ⟨s, m, q, by unfold val; rw [e]; show sg s * _ * _ = _; rw [Rat.mul_assoc], hm, hq⟩
/-- a magnitude m * 2 ^ q of the format, against what is kept of mag * 2 ^ place -/
theorem kept_mono_up (s : Bool) (mag : Nat) (place : Int) (m : Nat) (q : Int) (h0 : mag ≠ 0) (hm : m < 2 ^ 53) (hq : -1074 ≤ q)
    (h : (mag : Rat) * two place ≤ (m : Rat) * two q) : (ukept s mag place : Rat) * two (ulast mag place) ≤ (m : Rat) * two q := by
  obtain ⟨k1, k2⟩ := kept_err s mag place
  have hl : ulast mag place = max (place + mag.log2 - 52) (-1074) := rfl
  have hql : ulast mag place ≤ q := by
    by_cases c : place + mag.log2 - 52 ≤ -1074
    · omega
    · have hb := log_bound (place := place) (e := q + 53) h0 (by
        have a : (m : Rat) < ((2 ^ 53 : Nat) : Rat) := by exact_mod_cast hm
        have := Rat.mul_lt_mul_of_pos_right a (two_pos q)
        rw [← two_nat, ← two_add] at this
        rw [show q + 53 = ((53 : Nat) : Int) + q by omega]; grind)
      omega
  obtain ⟨t, ht⟩ : ∃ t : Nat, q = t + ulast mag place := ⟨(q - ulast mag place).toNat, by omega⟩
  have e : (m : Rat) * two q = ((m * 2 ^ t : Nat) : Rat) * two (ulast mag place) := by
    rw [ht, two_add, two_nat]; push_cast; grind
  rw [e] at h ⊢
  have tl := two_pos (ulast mag place)
  have th : two (ulast mag place) = 2 * two (ulast mag place - 1) := by
    rw [show ulast mag place = (ulast mag place - 1) + 1 by omega, two_add]
    have : two 1 = 2 := by unfold two; rfl
    rw [this, show ulast mag place - 1 + 1 - 1 = ulast mag place - 1 by omega]; grind
  have : ukept s mag place ≤ m * 2 ^ t := by
    apply Nat.le_of_not_lt
    intro c
    have c2 : ((m * 2 ^ t : Nat) : Rat) + 1 ≤ (ukept s mag place : Rat) := by exact_mod_cast c
    have := Rat.mul_le_mul_of_nonneg_right c2 (Rat.le_of_lt tl)
    grind
  have c2 : (ukept s mag place : Rat) ≤ ((m * 2 ^ t : Nat) : Rat) := by exact_mod_cast this
  exact Rat.mul_le_mul_of_nonneg_right c2 (Rat.le_of_lt tl)
theorem kept_mono_down (s : Bool) (mag : Nat) (place : Int) (m : Nat) (q : Int) (h0 : mag ≠ 0) (hm : m < 2 ^ 53) (hq : -1074 ≤ q)
    (h : (m : Rat) * two q ≤ (mag : Rat) * two place) : (m : Rat) * two q ≤ (ukept s mag place : Rat) * two (ulast mag place) := by
  obtain ⟨k1, k2⟩ := kept_err s mag place
  obtain ⟨kb1, kb2⟩ := kept_bounds s mag place h0
  have hl : ulast mag place = max (place + mag.log2 - 52) (-1074) := rfl
  have tl := two_pos (ulast mag place)
  by_cases c : ulast mag place ≤ q
  · obtain ⟨t, ht⟩ : ∃ t : Nat, q = t + ulast mag place := ⟨(q - ulast mag place).toNat, by omega⟩
    have e : (m : Rat) * two q = ((m * 2 ^ t : Nat) : Rat) * two (ulast mag place) := by
      rw [ht, two_add, two_nat]; push_cast; grind
    rw [e] at h ⊢
    have th : two (ulast mag place) = 2 * two (ulast mag place - 1) := by
      rw [show ulast mag place = (ulast mag place - 1) + 1 by omega, two_add]
      have : two 1 = 2 := by unfold two; rfl
      rw [this, show ulast mag place - 1 + 1 - 1 = ulast mag place - 1 by omega]; grind
    have : m * 2 ^ t ≤ ukept s mag place := by
      apply Nat.le_of_not_lt
      intro c
      have c2 : (ukept s mag place : Rat) + 1 ≤ ((m * 2 ^ t : Nat) : Rat) := by exact_mod_cast c
      have := Rat.mul_le_mul_of_nonneg_right c2 (Rat.le_of_lt tl)
      grind
    have c2 : ((m * 2 ^ t : Nat) : Rat) ≤ (ukept s mag place : Rat) := by exact_mod_cast this
    exact Rat.mul_le_mul_of_nonneg_right c2 (Rat.le_of_lt tl)
  · have hk := kb2 (by omega)
    have a : (m : Rat) ≤ ((2 ^ 53 : Nat) : Rat) := by exact_mod_cast (Nat.le_of_lt hm)
    have a1 := Rat.mul_le_mul_of_nonneg_right a (Rat.le_of_lt (two_pos q))
    have b : ((2 ^ 52 : Nat) : Rat) ≤ (ukept s mag place : Rat) := by exact_mod_cast hk
    have b1 := Rat.mul_le_mul_of_nonneg_right b (Rat.le_of_lt tl)
    rw [← two_nat, ← two_add] at a1 b1
    have : two (((53 : Nat) : Int) + q) ≤ two (((52 : Nat) : Int) + ulast mag place) := two_mono (by omega)
    exact Rat.le_trans a1 (Rat.le_trans this b1)
/-- rounding keeps the order with a word of the format -/
theorem nearest_mono (s : Bool) (mag : Nat) (place : Int) (y : Nat) (fy : fin y) (hB : (mag : Rat) * two place < two 1023) :
    fin (F.nearest s mag place) ∧ (sg s * ((mag : Rat) * two place) ≤ val y → val (F.nearest s mag place) ≤ val y) ∧ (val y ≤ sg s * ((mag : Rat) * two place) → val y ≤ val (F.nearest s mag place)) := by
  by_cases h0 : mag = 0
  · subst h0
    have : F.nearest s 0 place = F.word s 0 := by unfold Format.nearest; rw [if_pos rfl]
    rw [this, (word_zero s).2]
    refine ⟨(word_zero s).1, fun h => ?_, fun h => ?_⟩ <;> simpa using h
  · have hb := log_bound h0 hB
    obtain ⟨n1, n2⟩ := nearest_val s mag place h0 (by omega)
    refine ⟨n1, ?_, ?_⟩
    · intro h
      rw [n2]
      obtain ⟨s', m, q, e, hm, hq⟩ := num_abs fy
      have up := kept_mono_up s mag place m q h0 hm hq
      have dn := kept_mono_down s mag place m q h0 hm hq
      rw [e] at h ⊢
      have k0 : (0 : Rat) ≤ (ukept s mag place : Rat) * two (ulast mag place) := Rat.mul_nonneg (by exact_mod_cast Nat.zero_le _) (Rat.le_of_lt (two_pos _))
      have m0 : (0 : Rat) ≤ (m : Rat) * two q := Rat.mul_nonneg (by exact_mod_cast Nat.zero_le _) (Rat.le_of_lt (two_pos _))
      have g0 : (0 : Rat) < (mag : Rat) * two place := Rat.mul_pos (by exact_mod_cast Nat.pos_of_ne_zero h0) (two_pos _)
      generalize (ukept s mag place : Rat) * two (ulast mag place) = K at *
      generalize (m : Rat) * two q = Y at *
      generalize (mag : Rat) * two place = R at *
      cases s <;> cases s' <;> simp only [sg] at h ⊢ <;> grind
    · intro h
      rw [n2]
      obtain ⟨s', m, q, e, hm, hq⟩ := num_abs fy
      have up := kept_mono_up s mag place m q h0 hm hq
      have dn := kept_mono_down s mag place m q h0 hm hq
      rw [e] at h ⊢
      have k0 : (0 : Rat) ≤ (ukept s mag place : Rat) * two (ulast mag place) := Rat.mul_nonneg (by exact_mod_cast Nat.zero_le _) (Rat.le_of_lt (two_pos _))
      have m0 : (0 : Rat) ≤ (m : Rat) * two q := Rat.mul_nonneg (by exact_mod_cast Nat.zero_le _) (Rat.le_of_lt (two_pos _))
      have g0 : (0 : Rat) < (mag : Rat) * two place := Rat.mul_pos (by exact_mod_cast Nat.pos_of_ne_zero h0) (two_pos _)
      generalize (ukept s mag place : Rat) * two (ulast mag place) = K at *
      generalize (m : Rat) * two q = Y at *
      generalize (mag : Rat) * two place = R at *
      cases s <;> cases s' <;> simp only [sg] at h ⊢ <;> grind
theorem write_mono (d : Datum) (hd : isNum d) (y : Nat) (fy : fin y) (h1 : Abs (dval d) (two 1022)) :
    fin (F.write d) ∧ (dval d ≤ val y → val (F.write d) ≤ val y) ∧ (val y ≤ dval d → val y ≤ val (F.write d)) := by
  cases d with
  | infinity s => exact hd.elim
  | nan s f => exact hd.elim
  | number s m p =>
    have e : dval (.number s m p) = sg s * ((m : Rat) * two p) := by show sg s * _ * _ = _; rw [Rat.mul_assoc]
    rw [e] at h1 ⊢
    have m0 : (0 : Rat) ≤ (m : Rat) * two p := Rat.mul_nonneg (by exact_mod_cast Nat.zero_le m) (Rat.le_of_lt (two_pos _))
    refine nearest_mono s m p y fy ?_
    have : two 1022 < two 1023 := by unfold two; decide +kernel
    unfold Abs at h1
    generalize (m : Rat) * two p = R at *
    cases s <;> simp only [sg] at h1 <;> grind
/-- the operations, against any word of the format -/
theorem add_mono (a b : Nat) (fa : fin a) (fb : fin b) (h : Abs (val a + val b) (two 1022)) : ∃ r, floatBits .add .f64 a b = some r ∧ fin r ∧ ∀ y, fin y → (val a + val b ≤ val y → val r ≤ val y) ∧ (val y ≤ val a + val b → val y ≤ val r) := by
  obtain ⟨d, e1, e2, e3⟩ := sum_val _ _ fa fb
  have e4 : dval d = val a + val b := e3
  refine ⟨F.write d, ?_, (write_mono d e2 0 zero_fin.1 (by rw [e4]; exact h)).1, fun y fy => ?_⟩
  · show ((F.read a).sum (F.read b)).map F.write = _
    rw [e1]; rfl
  · have := (write_mono d e2 y fy (by rw [e4]; exact h)).2
    rw [e4] at this; exact this
theorem sub_mono (a b : Nat) (fa : fin a) (fb : fin b) (h : Abs (val a - val b) (two 1022)) : ∃ r, floatBits .sub .f64 a b = some r ∧ fin r ∧ ∀ y, fin y → (val a - val b ≤ val y → val r ≤ val y) ∧ (val y ≤ val a - val b → val y ≤ val r) := by
  obtain ⟨o1, o2⟩ := opp_val _ fb
  obtain ⟨d, e1, e2, e3⟩ := sum_val _ _ fa o1
  rw [o2] at e3
  have e4 : dval d = val a - val b := by rw [e3]; unfold val; grind
  refine ⟨F.write d, ?_, (write_mono d e2 0 zero_fin.1 (by rw [e4]; exact h)).1, fun y fy => ?_⟩
  · show ((F.read a).sum (F.read b).opposite).map F.write = _
    rw [e1]; rfl
  · have := (write_mono d e2 y fy (by rw [e4]; exact h)).2
    rw [e4] at this; exact this
theorem mul_mono (a b : Nat) (fa : fin a) (fb : fin b) (h : Abs (val a * val b) (two 1022)) : ∃ r, floatBits .mul .f64 a b = some r ∧ fin r ∧ ∀ y, fin y → (val a * val b ≤ val y → val r ≤ val y) ∧ (val y ≤ val a * val b → val y ≤ val r) := by
  obtain ⟨d, e1, e2, e3⟩ := prod_val _ _ fa fb
  have e4 : dval d = val a * val b := e3
  refine ⟨F.write d, ?_, (write_mono d e2 0 zero_fin.1 (by rw [e4]; exact h)).1, fun y fy => ?_⟩
  · show ((F.read a).product (F.read b)).map F.write = _
    rw [e1]; rfl
  · have := (write_mono d e2 y fy (by rw [e4]; exact h)).2
    rw [e4] at this; exact this
theorem read_kept' (s : Bool) (t k : Nat) (hk : k < 2 ^ 53) (hl : 0 < t → 2 ^ 52 ≤ k) (ht : t ≤ 2045) :
    fin (F.word s (t * 2 ^ 52 + k)) ∧ val (F.word s (t * 2 ^ 52 + k)) = sg s * (k : Rat) * two (-1074 + t) := by
  have hr : t * 2 ^ 52 + k < 2047 * 2 ^ 52 := by omega
  unfold fin val
  rw [read_word s _ hr]
  by_cases h1 : t * 2 ^ 52 + k < 2 ^ 52
  · rw [if_pos h1]
    have : t = 0 := by omega
    subst this
    refine ⟨trivial, ?_⟩
    simp [dval]
  · rw [if_neg h1]
    refine ⟨trivial, ?_⟩
    show sg s * ((2 ^ 52 + (t * 2 ^ 52 + k) % 2 ^ 52 : Nat) : Rat) * two _ = _
    have hk2 : 2 ^ 52 ≤ k := by omega
    have e1 : 2 ^ 52 + (t * 2 ^ 52 + k) % 2 ^ 52 = k := by omega
    have e2 : (t * 2 ^ 52 + k) / 2 ^ 52 - 1 = t := by omega
    rw [e1, e2]
/-- a whole number m * 2 ^ i with m of 53 bits, up to the top -/
theorem nearest_big (s : Bool) (m : Nat) (i : Nat) (hm1 : 2 ^ 52 ≤ m) (hm2 : m < 2 ^ 53) (hi : i ≤ 971) :
    fin (F.nearest s (m * 2 ^ i) 0) ∧ val (F.nearest s (m * 2 ^ i) 0) = sg s * (m : Rat) * two i := by
  have hp := Nat.two_pow_pos i
  have h0 : m * 2 ^ i ≠ 0 := Nat.mul_ne_zero (by omega) (by omega)
  have hlog : (m * 2 ^ i).log2 = 52 + i := by
    have a : 52 + i ≤ (m * 2 ^ i).log2 := (Nat.le_log2 h0).2 (by rw [Nat.pow_add]; exact Nat.mul_le_mul_right _ hm1)
    have b : (m * 2 ^ i).log2 < 53 + i := (Nat.log2_lt h0).2 (by rw [Nat.pow_add]; exact Nat.mul_lt_mul_of_pos_right hm2 hp)
    omega
  rw [nearest_eq s _ _ h0]
  have hl : ulast (m * 2 ^ i) 0 = i := by unfold ulast; rw [hlog]; omega
  have hk : ukept s (m * 2 ^ i) 0 = m := by
    unfold ukept
    rw [hl, show (0 - (i : Int)).toNat = 0 by omega, show ((i : Int) - 0).toNat = i by omega, Nat.shiftLeft_zero, cut_exact]
  rw [hl, hk, show ((i : Int) + 1074).toNat = i + 1074 by omega, Nat.min_eq_left (by omega)]
  have := read_kept' s (i + 1074) m hm2 (fun _ => hm1) (by omega)
  rw [show (-1074 + ((i + 1074 : Nat) : Int)) = (i : Int) by omega] at this
  exact this
def floorB (x : Nat) : Nat := F.write ((F.read x).integral .down)
/-- the floor of a finite word -/
theorem floor_val {x : Nat} (hx : fin x) : fin (floorB x) ∧ val (floorB x) ≤ val x ∧ val x < val (floorB x) + 1 := by
  obtain ⟨s, m, i, e, hm, hi1, hi2, hsub⟩ := fin_num hx
  have hv : val x = sg s * (m : Rat) * two i := by unfold val; rw [e]; rfl
  unfold floorB
  rw [e]
  show fin (F.nearest s (Toward.down.cut s (m <<< i.toNat) (-i).toNat) 0) ∧ _
  by_cases h : 0 ≤ i
  · obtain ⟨n, rfl⟩ := Int.eq_ofNat_of_zero_le h
    have hm1 : 2 ^ 52 ≤ m := by
      apply Nat.le_of_not_lt; intro c; have := hsub c; omega
    have hc : Toward.down.cut s (m <<< ((n : Int)).toNat) (-(n : Int)).toNat = m * 2 ^ n := by
      rw [show (-(n : Int)).toNat = 0 by omega, show ((n : Int)).toNat = n by omega, Nat.shiftLeft_eq]
      unfold Toward.cut
      simp [Nat.mod_one]
    obtain ⟨f1, f2⟩ := nearest_big s m n hm1 hm (by omega)
    rw [hc]
    have : val (F.write (Datum.integral Toward.down (Datum.number s m ↑n))) = val x := by
      show val (F.nearest s (Toward.down.cut s (m <<< ((n : Int)).toNat) (-(n : Int)).toNat) 0) = _
      rw [hc, f2, hv]
    rw [this]
    refine ⟨f1, ?_, ?_⟩ <;> grind
  · obtain ⟨n, hn⟩ : ∃ n : Nat, i = -n := ⟨(-i).toNat, by omega⟩
    subst hn
    show fin (F.nearest s _ 0) ∧ val (F.nearest s (Toward.down.cut s (m <<< (-(n : Int)).toNat) (- -(n : Int)).toNat) 0) ≤ _ ∧ _ < val (F.nearest s (Toward.down.cut s (m <<< (-(n : Int)).toNat) (- -(n : Int)).toNat) 0) + 1
    rw [show (-(n : Int)).toNat = 0 by omega, show (- -(n : Int)).toNat = n by omega, Nat.shiftLeft_zero]
    -- the cut downwards
    have hcut : ∃ c : Nat, Toward.down.cut s m n = c ∧ c ≤ 2 ^ 53 ∧ (s = false → c * 2 ^ n ≤ m ∧ m < (c + 1) * 2 ^ n) ∧ (s = true → m ≤ c * 2 ^ n ∧ c * 2 ^ n < m + 2 ^ n) := by
      unfold Toward.cut
      dsimp only
      rw [Nat.one_shiftLeft]
      have hp := Nat.two_pow_pos n
      by_cases hd : n ≤ m.log2 + 2
      · rw [Nat.min_eq_left hd]
        have q := Nat.div_add_mod m (2 ^ n)
        have r := Nat.mod_lt m hp
        have hle := Nat.div_le_self m (2 ^ n)
        generalize 2 ^ n = G at *
        generalize m / G = a at *
        generalize m % G = b at *
        refine ⟨_, rfl, ?_, ?_, ?_⟩
        · cases (s && b != 0) <;> simp <;> omega
        · intro hs; subst hs
          simp only [Bool.false_and, Bool.toNat_false, Nat.add_zero]
          rw [Nat.add_mul, Nat.mul_comm a G]; omega
        · intro hs; subst hs
          by_cases hb : b = 0
          · subst hb; simp only [bne_self_eq_false, Bool.and_false, Bool.toNat_false, Nat.add_zero]
            rw [Nat.mul_comm a G]; omega
          · have : (b != 0) = true := by simpa using hb
            rw [this]; simp only [Bool.and_self, Bool.toNat_true]
            rw [Nat.add_mul, Nat.mul_comm a G]; omega
      · rw [Nat.min_eq_right (by omega)]
        have h1 : m < 2 ^ (m.log2 + 1) := Nat.lt_log2_self
        have h2 : 2 ^ (m.log2 + 2) = 2 * 2 ^ (m.log2 + 1) := by rw [Nat.pow_succ]; omega
        have h3 : 2 ^ (m.log2 + 2) ≤ 2 ^ n := Nat.pow_le_pow_right (by decide) (by omega)
        have h4 : m / 2 ^ (m.log2 + 2) = 0 := Nat.div_eq_of_lt (by omega)
        have h5 : m % 2 ^ (m.log2 + 2) = m := Nat.mod_eq_of_lt (by omega)
        rw [h4, h5]
        refine ⟨_, rfl, ?_, ?_, ?_⟩
        · cases (s && m != 0) <;> simp
        · intro hs; subst hs
          simp only [Bool.false_and, Bool.toNat_false]; omega
        · intro hs; subst hs
          by_cases hb : m = 0
          · subst hb; simp; exact Nat.two_pow_pos n
          · have : (m != 0) = true := by simpa using hb
            rw [this]; simp only [Bool.and_self, Bool.toNat_true]; omega
    obtain ⟨c, hc, hc53, hp1, hp2⟩ := hcut
    rw [hc]
    -- c is written exactly
    have hex : fin (F.nearest s c 0) ∧ val (F.nearest s c 0) = sg s * (c : Rat) * two 0 := by
      by_cases c53 : c = 2 ^ 53
      · exact nearest_exact s c 0 1 53 (by decide) (by decide) (by decide) (by rw [c53]; unfold two; decide +kernel)
      · exact nearest_exact s c 0 c 0 (by omega) (by decide) (by decide) rfl
    refine ⟨hex.1, ?_⟩
    rw [hex.2, hv, two_zero]
    have hn2 : two (-(n : Int)) * ((2 ^ n : Nat) : Rat) = 1 := by rw [← two_nat, ← two_add, show -(n : Int) + n = 0 by omega, two_zero]
    have tp := two_pos (-(n : Int))
    generalize two (-(n : Int)) = t at *
    cases s with
    | false =>
      obtain ⟨a1, a2⟩ := hp1 rfl
      have b1 : (c : Rat) * ((2 ^ n : Nat) : Rat) ≤ (m : Rat) := by exact_mod_cast a1
      have b2 : (m : Rat) < ((c : Rat) + 1) * ((2 ^ n : Nat) : Rat) := by exact_mod_cast a2
      have c1 := Rat.mul_le_mul_of_nonneg_right b1 (Rat.le_of_lt tp)
      have c2 := Rat.mul_lt_mul_of_pos_right b2 tp
      generalize ((2 ^ n : Nat) : Rat) = G at *
      simp only [sg]
      have d1 : (c : Rat) * G * t = (c : Rat) * (t * G) := by grind
      have d2 : ((c : Rat) + 1) * G * t = ((c : Rat) + 1) * (t * G) := by grind
      rw [d1, hn2] at c1
      rw [d2, hn2] at c2
      constructor <;> grind
    | true =>
      obtain ⟨a1, a2⟩ := hp2 rfl
      have b1 : (m : Rat) ≤ (c : Rat) * ((2 ^ n : Nat) : Rat) := by exact_mod_cast a1
      have b2 : (c : Rat) * ((2 ^ n : Nat) : Rat) < (m : Rat) + ((2 ^ n : Nat) : Rat) := by exact_mod_cast a2
      have c1 := Rat.mul_le_mul_of_nonneg_right b1 (Rat.le_of_lt tp)
      have c2 := Rat.mul_lt_mul_of_pos_right b2 tp
      generalize ((2 ^ n : Nat) : Rat) = G at *
      simp only [sg]
      have d1 : (c : Rat) * G * t = (c : Rat) * (t * G) := by grind
      have d2 : ((m : Rat) + G) * t = (m : Rat) * t + t * G := by grind
      rw [d1, hn2] at c1
      rw [d1, d2, hn2] at c2
      constructor <;> grind
end Go.Proofs.YtkbgkogfjfojgaaDoor.Flt
