/- Quotients and signs; what satan computes: every operation gives a number, and a small one. -/
import Derived.Test.YtkbgkogfjfojgaaDoorXat
set_option linter.unusedSimpArgs false
set_option linter.unusedVariables false
set_option maxRecDepth 100000
namespace Go.Proofs.YtkbgkogfjfojgaaDoor.Flt
open Ieee Go
theorem neg_read {x : Nat} (hw : x < 2 ^ 64) : F.read (negB x) = (F.read x).opposite := by
  have e : negB x = x ^^^ 2 ^ 63 := rfl
  rw [e]
  have hd : (x ^^^ 2 ^ 63) % 2 ^ 63 = x % 2 ^ 63 := by
    rw [Nat.xor_mod_two_pow]; simp
  have hq : (x ^^^ 2 ^ 63) / 2 ^ 63 % 2 = (x / 2 ^ 63 + 1) % 2 := by
    have h1 : (x ^^^ 2 ^ 63) / 2 ^ 63 = x / 2 ^ 63 ^^^ 1 := by
      rw [← Nat.shiftRight_eq_div_pow, Nat.shiftRight_xor_distrib, Nat.shiftRight_eq_div_pow]
      rfl
    rw [h1]
    have : x / 2 ^ 63 = 0 ∨ x / 2 ^ 63 = 1 := by omega
    rcases this with h | h <;> rw [h] <;> rfl
  have hs : ((x ^^^ 2 ^ 63) / 2 ^ 63 % 2 == 1) = !(x / 2 ^ 63 % 2 == 1) := by
    rw [hq]
    have : x / 2 ^ 63 = 0 ∨ x / 2 ^ 63 = 1 := by omega
    rcases this with h | h <;> rw [h] <;> rfl
  unfold Format.read
  dsimp only
  rw [show F.signWeight = 2 ^ 63 from rfl, hd, hs]
  split
  · rfl
  · split
    · rfl
    · split <;> rfl
theorem rung_of (mag : Nat) (place : Int) : ∃ r, r ≤ 2047 * 2 ^ 52 ∧ (mag = 0 → r = 0) ∧ ∀ s, F.nearest s mag place = F.word s r := by
  by_cases h : mag = 0
  · subst h
    refine ⟨0, by omega, fun _ => rfl, fun s => ?_⟩
    unfold Format.nearest; rw [if_pos rfl]
  · refine ⟨min ((ulast mag place + 1074).toNat * 2 ^ 52 + ukept false mag place) (2047 * 2 ^ 52), Nat.min_le_right _ _, fun e => (h e).elim, fun s => ?_⟩
    rw [nearest_eq s mag place h]
    have : ukept s mag place = ukept false mag place := rfl
    rw [this]
theorem read_top (s : Bool) : F.read (F.word s (2047 * 2 ^ 52)) = .infinity s := by cases s <;> decide +kernel
theorem c066 : fin 4604119971053405471 ∧ val 4604119971053405471 = 5944751508129055 / 9007199254740992 := const_val (by decide +kernel) (by decide +kernel)
theorem cT : fin 4612618744449965542 ∧ val 4612618744449965542 = 2718162824974067 / 1125899906842624 := const_val (by decide +kernel) (by decide +kernel)
theorem c1_ : fin 4607182418800017408 ∧ val 4607182418800017408 = 1 := const_val (by decide +kernel) (by decide +kernel)
theorem cPI2 : fin 4609753056924675352 ∧ val 4609753056924675352 = 884279719003555 / 562949953421312 := const_val (by decide +kernel) (by decide +kernel)
theorem cPI4 : fin 4605249457297304856 ∧ val 4605249457297304856 = 884279719003555 / 1125899906842624 := const_val (by decide +kernel) (by decide +kernel)
theorem cMB : fin 4364452196894661639 ∧ val 4364452196894661639 = 4967757600021511 / 81129638414606681695789005144064 := const_val (by decide +kernel) (by decide +kernel)
theorem cMB2 : fin 4359948597267291143 ∧ val 4359948597267291143 = 4967757600021511 / 162259276829213363391578010288128 := const_val (by decide +kernel) (by decide +kernel)
abbrev top : Nat := 2047 * 2 ^ 52
theorem word_lt (s : Bool) (r : Nat) (h : r ≤ top) : F.word s r < 2 ^ 64 := by
  cases s
  · show r < 2 ^ 64
    unfold top at h; omega
  · show 2 ^ 63 + r < 2 ^ 64
    unfold top at h; omega
theorem neg_word (s : Bool) (r : Nat) (h : r ≤ top) : negB (F.word s r) = F.word (!s) r := by
  have hr : r < 2 ^ 63 := by unfold top at h; omega
  have e : ∀ x, negB x = x ^^^ 2 ^ 63 := fun _ => rfl
  rw [e]
  have h1 : r ^^^ 2 ^ 63 = 2 ^ 63 + r := by
    have := Nat.two_pow_add_eq_or_of_lt hr 1
    rw [Nat.mul_one] at this
    rw [this]
    apply Nat.eq_of_testBit_eq
    intro i
    rw [Nat.testBit_xor, Nat.testBit_or, Nat.testBit_two_pow]
    by_cases c : 63 = i
    · subst c
      have : r.testBit 63 = false := Nat.testBit_lt_two_pow hr
      simp [this]
    · simp [c]
  cases s
  · show r ^^^ 2 ^ 63 = 2 ^ 63 + r
    exact h1
  · show (2 ^ 63 + r) ^^^ 2 ^ 63 = r
    rw [← h1, Nat.xor_assoc, Nat.xor_self, Nat.xor_zero]
theorem word_fin (s : Bool) (r : Nat) (h : r < top) : fin (F.word s r) := by
  unfold fin
  rw [read_word s r h]
  split <;> trivial
theorem word_pos (r : Nat) (h0 : 0 < r) (h : r < top) : 0 < val (F.word false r) := by
  unfold val
  rw [read_word false r h]
  split
  · show 0 < sg false * (r : Rat) * two (-1074)
    have h1 : (0 : Rat) < (r : Rat) := by exact_mod_cast h0
    have h2 := Rat.mul_pos h1 (two_pos (-1074))
    unfold sg; simp; grind
  · show 0 < sg false * ((2 ^ 52 + r % 2 ^ 52 : Nat) : Rat) * two _
    have h1 : (0 : Rat) < ((2 ^ 52 + r % 2 ^ 52 : Nat) : Rat) := by exact_mod_cast (show 0 < 2 ^ 52 + r % 2 ^ 52 by omega)
    have h2 := Rat.mul_pos h1 (two_pos (-1074 + (r / 2 ^ 52 - 1 : Nat)))
    unfold sg; simp at h2 ⊢; grind
theorem quot_eq (s t : Bool) (m n : Nat) (i j : Int) (hn : n ≠ 0) : (Datum.number s m i).quotient 54 (.number t n j) = some (.number (s ^^ t) (2 * (m <<< (54 + n.log2 - m.log2) / n) + (m <<< (54 + n.log2 - m.log2) % n != 0).toNat) (i - j - (54 + n.log2 - m.log2 : Nat) - 1)) := by
  show (if n = 0 then if m = 0 then none else some (Datum.infinity (s ^^ t)) else some (.number (s ^^ t) (2 * (m <<< (54 + n.log2 - m.log2) / n) + (m <<< (54 + n.log2 - m.log2) % n != 0).toNat) (i - j - (54 + n.log2 - m.log2 : Nat) - 1))) = _
  rw [if_neg hn]
theorem quo_signs {y x : Nat} (wy : y < 2 ^ 64) (wx : x < 2 ^ 64) (fy : fin y) (fx : fin x) (h0 : val x ≠ 0) :
    ∃ s r, r ≤ top ∧ floatBits .quo .f64 y x = some (F.word s r) ∧ floatBits .quo .f64 (negB y) x = some (F.word (!s) r) ∧ floatBits .quo .f64 (negB y) (negB x) = some (F.word s r) := by
  obtain ⟨s, m, i, ey, hm, -⟩ := fin_num fy
  obtain ⟨t, n, j, ex, hn, -⟩ := fin_num fx
  have hn0 : n ≠ 0 := by
    intro h; apply h0; unfold val; rw [ex, h]; simp [dval]
  have ny := neg_read wy
  have nx := neg_read wx
  rw [ey] at ny
  rw [ex] at nx
  obtain ⟨r, h1, -, h3⟩ := rung_of (2 * (m <<< (54 + n.log2 - m.log2) / n) + (m <<< (54 + n.log2 - m.log2) % n != 0).toNat) (i - j - (54 + n.log2 - m.log2 : Nat) - 1)
  refine ⟨s ^^ t, r, h1, ?_, ?_, ?_⟩
  · show ((F.read y).quotient 54 (F.read x)).map F.write = _
    rw [ey, ex, quot_eq s t m n i j hn0]
    exact congrArg some (h3 _)
  · show ((F.read (negB y)).quotient 54 (F.read x)).map F.write = _
    rw [ny, ex, show (Datum.number s m i).opposite = .number (!s) m i from rfl, quot_eq (!s) t m n i j hn0]
    have : ((!s) ^^ t) = !(s ^^ t) := by cases s <;> cases t <;> rfl
    rw [this]
    exact congrArg some (h3 _)
  · show ((F.read (negB y)).quotient 54 (F.read (negB x))).map F.write = _
    rw [ny, nx, show (Datum.number s m i).opposite = .number (!s) m i from rfl, show (Datum.number t n j).opposite = .number (!t) n j from rfl, quot_eq (!s) (!t) m n i j hn0]
    have : ((!s) ^^ (!t)) = (s ^^ t) := by cases s <;> cases t <;> rfl
    rw [this]
    exact congrArg some (h3 _)
/-- what satan computes -/
inductive SatP (x t : Nat) : Prop
  | low (h : leB x 4604119971053405471 = true) (h1 : XatP x t)
  | high (i r s : Nat) (h : leB x 4604119971053405471 = false) (h0 : gtB x 4612618744449965542 = true) (h1 : floatBits .quo .f64 4607182418800017408 x = some i) (h2 : XatP i r) (h3 : floatBits .sub .f64 4609753056924675352 r = some s) (h4 : floatBits .add .f64 s 4364452196894661639 = some t)
  | mid (a b c r s : Nat) (h : leB x 4604119971053405471 = false) (h0 : gtB x 4612618744449965542 = false) (h1 : floatBits .sub .f64 x 4607182418800017408 = some a) (h2 : floatBits .add .f64 x 4607182418800017408 = some b) (h3 : floatBits .quo .f64 a b = some c) (h4 : XatP c r) (h5 : floatBits .add .f64 4605249457297304856 r = some s) (h6 : floatBits .add .f64 s 4359948597267291143 = some t)
theorem abs_div {a b q : Rat} (hb : 0 < b) (h1 : a ≤ q * b) (h2 : -(q * b) ≤ a) : Abs (a / b) q := by
  have e : a / b * b = a := Rat.div_mul_cancel (by grind)
  unfold Abs
  constructor
  · by_cases c : -q ≤ a / b
    · exact c
    · have := Rat.mul_pos (show 0 < -q - a / b by grind) hb; grind
  · by_cases c : a / b ≤ q
    · exact c
    · have := Rat.mul_pos (show 0 < a / b - q by grind) hb; grind
theorem tail_b {x y : Nat} {op : BinOp} (ho : op = .add ∨ op = .sub) (fx : fin x) (fy : fin y) (hx : Abs (val x) 2) (hy : Abs (val y) 6) : ∃ s, floatBits op .f64 x y = some s ∧ fin s ∧ Abs (val s) 9 := by
  rcases ho with rfl | rfl
  · obtain ⟨s, h⟩ := add_b fx fy hx hy (by grind)
    exact ⟨s, h.bits, h.fin, abs_le h.abs (by grind)⟩
  · obtain ⟨s, h⟩ := sub_b fx fy hx hy (by grind)
    exact ⟨s, h.bits, h.fin, abs_le h.abs (by grind)⟩
theorem tail2_b {x y : Nat} (fx : fin x) (fy : fin y) (hx : Abs (val x) 9) (hy : Abs (val y) 1) : ∃ s, floatBits .add .f64 x y = some s ∧ fin s ∧ Abs (val s) 11 := by
  obtain ⟨s, h⟩ := add_b fx fy hx hy (by grind)
  exact ⟨s, h.bits, h.fin, abs_le h.abs (by grind)⟩
theorem small_er {B : Rat} (h : B ≤ 100) : er B ≤ 1 / 100 := by
  unfold er
  have h1 : B / 10 ^ 15 ≤ 1 / 1000 := by grind
  have h2 : (1 : Rat) / 10 ^ 300 ≤ 1 / 1000 := by decide +kernel
  grind
theorem aPI2 : Abs (val 4609753056924675352) 2 := by rw [cPI2.2]; unfold Abs; constructor <;> grind
theorem aPI4 : Abs (val 4605249457297304856) 2 := by rw [cPI4.2]; unfold Abs; constructor <;> grind
theorem aMB : Abs (val 4364452196894661639) 1 := by rw [cMB.2]; unfold Abs; constructor <;> grind
theorem aMB2 : Abs (val 4359948597267291143) 1 := by rw [cMB2.2]; unfold Abs; constructor <;> grind
theorem sat_fin (x : Nat) (fx : fin x) (h0 : 0 < val x) : ∃ t, fin t ∧ Abs (val t) 11 ∧ SatP x t := by
  by_cases c1 : val x ≤ val 4604119971053405471
  · obtain ⟨t, f, b, X⟩ := xat_ex x fx (by rw [c066.2] at c1; unfold Abs; constructor <;> grind)
    exact ⟨t, f, abs_le b (by grind), .low ((leB_iff fx c066.1).2 c1) X⟩
  have n1 : leB x 4604119971053405471 = false := by
    cases e : leB x 4604119971053405471
    · rfl
    · exact absurd ((leB_iff fx c066.1).1 e) c1
  rw [c066.2] at c1
  by_cases c2 : val 4612618744449965542 < val x
  · have g2 : gtB x 4612618744449965542 = true := (gtB_iff fx cT.1).2 c2
    rw [cT.2] at c2
    have hd : Abs (val 4607182418800017408 / val x) (1 / 2) := abs_div h0 (by rw [c1_.2]; grind) (by rw [c1_.2]; grind)
    obtain ⟨i, H⟩ := div_b c1_.1 fx (by grind) hd (by grind)
    have hi : Abs (val i) (67 / 100) := abs_le (near_abs H.near hd) (by have := small_er (B := 3 * (1 / 2)) (by grind); grind)
    obtain ⟨r, fr, br, X⟩ := xat_ex i H.fin hi
    obtain ⟨s, es, fs, bs⟩ := tail_b (op := .sub) (.inr rfl) cPI2.1 fr aPI2 br
    obtain ⟨t, et, ft, bt⟩ := tail2_b fs cMB.1 bs aMB
    exact ⟨t, ft, bt, .high i r s n1 g2 H.bits X es et⟩
  · have g2 : gtB x 4612618744449965542 = false := by
      cases e : gtB x 4612618744449965542
      · rfl
      · exact absurd ((gtB_iff fx cT.1).1 e) c2
    rw [cT.2] at c2
    have hx : Abs (val x) 3 := by unfold Abs; constructor <;> grind
    have h1 : Abs (val 4607182418800017408) 1 := by rw [c1_.2]; unfold Abs; constructor <;> grind
    obtain ⟨a, Ha⟩ := sub_b fx c1_.1 hx h1 (by grind)
    obtain ⟨b, Hb⟩ := add_b fx c1_.1 hx h1 (by grind)
    have e1 := small_er (B := (3 : Rat) + 1) (by grind)
    have na := Ha.near
    have nb := Hb.near
    rw [c1_.2] at na nb
    unfold Near at na nb
    have hb0 : 0 < val b := by grind
    have hd : Abs (val a / val b) (6 / 10) := abs_div hb0 (by grind) (by grind)
    obtain ⟨c, Hc⟩ := div_b Ha.fin Hb.fin (by grind) hd (by grind)
    have hc : Abs (val c) (67 / 100) := abs_le (near_abs Hc.near hd) (by have := small_er (B := 3 * (6 / 10)) (by grind); grind)
    obtain ⟨r, fr, br, X⟩ := xat_ex c Hc.fin hc
    obtain ⟨s, es, fs, bs⟩ := tail_b (op := .add) (.inl rfl) cPI4.1 fr aPI4 br
    obtain ⟨t, et, ft, bt⟩ := tail2_b fs cMB2.1 bs aMB2
    exact ⟨t, ft, bt, .mid a b c r s n1 g2 Ha.bits Hb.bits Hc.bits X es et⟩
theorem sat_inf : ∃ t, fin t ∧ Abs (val t) 11 ∧ SatP (F.word false top) t := by
  obtain ⟨r, fr, br, X⟩ := xat_ex 0 zero_fin.1 (by rw [zero_fin.2]; unfold Abs; constructor <;> grind)
  obtain ⟨s, es, fs, bs⟩ := tail_b (op := .sub) (.inr rfl) cPI2.1 fr aPI2 br
  obtain ⟨t, et, ft, bt⟩ := tail2_b fs cMB.1 bs aMB
  exact ⟨t, ft, bt, .high 0 r s (by decide +kernel) (by decide +kernel) (by decide +kernel) X es et⟩
theorem sat_ex (r : Nat) (h0 : 0 < r) (h : r ≤ top) : ∃ t, fin t ∧ Abs (val t) 11 ∧ SatP (F.word false r) t := by
  by_cases c : r = top
  · subst c; exact sat_inf
  · exact sat_fin _ (word_fin false r (by omega)) (word_pos r h0 (by omega))
theorem sat_lt {x t : Nat} (h : SatP x t) : t < 2 ^ 64 := by
  cases h with
  | low h h1 => obtain ⟨_, _, _, _, _, _, _, _, _, _, _, _, _, _, _, _, _, _, _, _, _, _, _, _, _, _, _, _, _, _, _, _, _, _, _, _, _, _, _, _, _, _, h⟩ := h1; exact bits_lt h
  | high i r s h h0 h1 h2 h3 h4 => exact bits_lt h4
  | mid a b c r s h h0 h1 h2 h3 h4 h5 h6 => exact bits_lt h6
end Go.Proofs.YtkbgkogfjfojgaaDoor.Flt
