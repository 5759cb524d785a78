/- Proved: for all x, y, c1, c2 and axis the law FnDeltaEOKSingleAxisIsAbsoluteDifference returns true, and its arguments read afterwards as before. No condition. -/
import Derived.Test.YtanaamlkiackbaaQT
import Derived.Test.YtanaamlkiackbaaF64
import Derived.Test.YtanaamlkiackbaaFlt
import Derived.Laws.Externs
import Derived.ShutString
namespace Go.Proofs.Ytanaamlkiackbaa.fnDeltaEOKSingleAxisIsAbsoluteDifference
open Go.ChangeShapes Go.WideShapes Go.ChangeAt Go.RowKit Go.Sort
open Go.ChangeMaps (open_string shut_string)
open Flt Ieee
set_option linter.unusedVariables false
theorem b2 (x : Bool) : x = true ∨ x = false := by cases x <;> simp
theorem ret_bool {a b : Bool} (h : a = b) : Ending.returned (.bool a) = .returned (.bool b) := by rw [h]
theorem ret_fl {k : FloatKind} {a b : Nat} (h : a = b) : Ending.returned (.float k a) = .returned (.float k b) := by rw [h]
theorem neg_fl (x : Nat) (w : World) : (Op.unary .neg (.float .f64 x)).run Try.prog w = .ok (.float .f64 (negB x)) w := rfl
theorem wp_gen {c : Code} {P : Program} {Q : Exit → Act → World → Prop} {a : Act} {w0 : World} (h : ∀ W, W = w0 → c.wp P Q a W) : c.wp P Q a w0 := h _ rfl
theorem after_call {W w' : World} (hb : Below W.heap.size W w') {a : Addr} {v : Value} (hc : W.cell? a = some v) : w'.cell? a = some v :=
  by rw [hb.cell (block_lt_of_cell hc)]; exact hc
theorem after_frozen {W w' : World} (hb : Below W.heap.size W w') {a : Addr} {v : Value} (hc : W.cell? a = some v) (hf : W.frozen? a = false) : w'.frozen? a = false :=
  by rw [hb.frozen (block_lt_of_cell hc)]; exact hf
def isNan (x : Nat) : Prop := ∃ s f, F.read x = .nan s f
theorem nan_word (v : Nat) : isNan ((v % 2) * 2 ^ 63 + 0x7ff0000000000000 + 1 + (v / 2) % (2 ^ 52 - 1)) := by
  have hm : (v / 2) % (2 ^ 52 - 1) < 2 ^ 52 - 1 := Nat.mod_lt _ (by decide)
  generalize (v / 2) % (2 ^ 52 - 1) = m at *
  have hs : v % 2 < 2 := Nat.mod_lt _ (by decide)
  generalize v % 2 = s at *
  have hr : (s * 2 ^ 63 + 0x7ff0000000000000 + 1 + m) % 2 ^ 63 = 0x7ff0000000000000 + 1 + m := by omega
  unfold isNan Format.read
  dsimp only
  rw [show F.signWeight = 2 ^ 63 from rfl, hr, show F.binade = 2 ^ 52 from rfl, show F.infRung = 0x7ff0000000000000 from by decide]
  rw [if_neg (by omega), if_neg (by omega), if_neg (by omega)]
  exact ⟨_, _, rfl⟩
theorem nan_run {P : Program} (w : World) (op : BinOp) (t : TypeId) (x y : Nat) (ho : op = .add ∨ op = .sub ∨ op = .mul ∨ op = .quo) (h : floatBits op .f64 x y = none) :
    ∃ r, (binOp op t (.float .f64 x) (.float .f64 y)).run P w = .ok (.float .f64 r) w.drew ∧ isNan r ∧ r < 2 ^ 64 := by
  refine ⟨_, ?_, nan_word (w.tape w.drawn (.nanBits .f64 x y)), ?_⟩
  · rcases ho with rfl | rfl | rfl | rfl <;> simp [binOp, Op.floatArith, floatBits] at h ⊢ <;> simp [h] <;> (rw [if_neg (by simp [Question.forced])]; rfl)
  · omega
theorem nan_order {x y : Nat} (h : isNan x) : F.order x y = none := by
  obtain ⟨s, f, e⟩ := h
  unfold Format.order
  rw [e]
  cases F.read y <;> rfl
theorem nan_order' {x y : Nat} (h : isNan y) : F.order x y = none := by
  obtain ⟨s, f, e⟩ := h
  unfold Format.order
  rw [e]
  cases F.read x <;> rfl
theorem nan_eqB {x y : Nat} (h : isNan x) : eqB x y = false := by
  have := nan_order (y := y) h
  unfold eqB
  show (F.order x y == some .eq) = false
  rw [this]; rfl
/-- x - x of a finite x: zero -/
theorem sub_self' {x : Nat} (hx : fin x) : floatBits .sub .f64 x x = some 0 := by
  obtain ⟨s, m, p, e, -⟩ := fin_num hx
  show ((F.read x).sum (F.read x).opposite).map F.write = some 0
  rw [e]
  show (some (F.write (.number (if signed s m (p - min p p).toNat + signed (!s) m (p - min p p).toNat = 0 then s && !s else decide (signed s m (p - min p p).toNat + signed (!s) m (p - min p p).toNat < 0)) (signed s m (p - min p p).toNat + signed (!s) m (p - min p p).toNat).natAbs (min p p)))) = some 0
  have h0 : signed s m (p - min p p).toNat + signed (!s) m (p - min p p).toNat = 0 := by
    unfold signed; cases s <;> simp <;> omega
  rw [h0, if_pos rfl]
  cases s <;> rfl
theorem eqB_self {x : Nat} (hx : fin x) : eqB x x = true := (eqB_iff hx hx).2 rfl
/-- a word that is no number and no NaN: an infinity: the difference is no number -/
theorem sub_inf {x : Nat} (hx : ¬ fin x) (hn : ¬ isNan x) : floatBits .sub .f64 x x = none := by
  show ((F.read x).sum (F.read x).opposite).map F.write = none
  unfold fin at hx
  cases e : F.read x with
  | number s m p => rw [e] at hx; exact (hx trivial).elim
  | nan s f => exact (hn ⟨s, f, e⟩).elim
  | infinity s => cases s <;> rfl
/-- the whole root -/
theorem rootFrom_spec (n : Nat) : ∀ (todo root : Nat), root * root ≤ n → n < (root + 2 ^ todo) * (root + 2 ^ todo) →
    Datum.rootFrom n todo root * Datum.rootFrom n todo root ≤ n ∧ n < (Datum.rootFrom n todo root + 1) * (Datum.rootFrom n todo root + 1)
  | 0, root, h1, h2 => by simpa [Datum.rootFrom] using ⟨h1, h2⟩
  | todo + 1, root, h1, h2 => by
    unfold Datum.rootFrom
    dsimp only
    rw [Nat.one_shiftLeft]
    by_cases c : (root + 2 ^ todo) * (root + 2 ^ todo) ≤ n
    · rw [if_pos c]
      refine rootFrom_spec n todo _ c ?_
      have : root + 2 ^ todo + 2 ^ todo = root + 2 ^ (todo + 1) := by rw [Nat.pow_succ]; omega
      rw [this]; exact h2
    · rw [if_neg c]
      exact rootFrom_spec n todo root h1 (by omega)
theorem root_spec (n : Nat) (h : n ≠ 0) : Datum.rootFrom n (n.log2 / 2 + 1) 0 * Datum.rootFrom n (n.log2 / 2 + 1) 0 ≤ n ∧ n < (Datum.rootFrom n (n.log2 / 2 + 1) 0 + 1) * (Datum.rootFrom n (n.log2 / 2 + 1) 0 + 1) := by
  apply rootFrom_spec
  · simp
  · rw [Nat.zero_add, ← Nat.pow_add]
    have := Nat.lt_log2_self (n := n)
    exact Nat.lt_of_lt_of_le this (Nat.pow_le_pow_right (by decide) (by omega))
/-- what rounds to k * 2 ^ T -/
theorem nearest_hits (s : Bool) (M k T : Nat) (P : Int) (hk1 : 2 ^ 52 ≤ k) (hk2 : k < 2 ^ 53) (h1 : 2 * (k * 2 ^ T) < 2 * M + 2 ^ T) (h2 : 2 * M < 2 * (k * 2 ^ T) + 2 ^ T) (hM : 2 ^ 52 * 2 ^ T ≤ M)
    (hP1 : -1074 ≤ P + T) (hP2 : P + T ≤ 970) :
    fin (F.nearest s M P) ∧ val (F.nearest s M P) = sg s * ((k : Rat) * two (P + T)) := by
  have hp : 0 < 2 ^ T := Nat.two_pow_pos T
  have hM0 : M ≠ 0 := by
    intro e; subst e
    have : 0 < 2 ^ 52 * 2 ^ T := Nat.mul_pos (by decide) hp
    omega
  have hMu : M < 2 ^ 53 * 2 ^ T := by
    have : k * 2 ^ T + 2 ^ T ≤ 2 ^ 53 * 2 ^ T := by
      rw [← Nat.succ_mul]; exact Nat.mul_le_mul_right _ hk2
    omega
  have hlog : M.log2 = 52 + T := by
    have a : 52 + T ≤ M.log2 := (Nat.le_log2 hM0).2 (by rw [Nat.pow_add]; exact hM)
    have b : M.log2 < 53 + T := (Nat.log2_lt hM0).2 (by rw [Nat.pow_add]; exact hMu)
    omega
  obtain ⟨n1, n2⟩ := nearest_val s M P hM0 (by omega)
  refine ⟨n1, ?_⟩
  rw [n2]
  have hl : ulast M P = P + T := by
    unfold ulast; rw [hlog]; omega
  have hkept : ukept s M P = k := by
    unfold ukept
    rw [hl, show (P - (P + (T : Int))).toNat = 0 by omega, show (P + (T : Int) - P).toNat = T by omega, Nat.shiftLeft_zero]
    obtain ⟨c1, c2⟩ := cut_near s M T
    generalize Toward.even.cut s M T = c at *
    by_cases a : c ≤ k
    · by_cases b : k ≤ c
      · omega
      · have := Nat.mul_le_mul_right (2 ^ T) (show c + 1 ≤ k by omega)
        rw [Nat.add_mul] at this
        omega
    · have := Nat.mul_le_mul_right (2 ^ T) (show k + 1 ≤ c by omega)
      rw [Nat.add_mul] at this
      omega
  rw [hkept, hl]
theorem rat_of_two {a b : Nat} {J : Int} (h : (a : Rat) * two J ≤ (b : Rat) * two J) : a ≤ b := by
  have := Rat.le_of_mul_le_mul_right h (two_pos J)
  exact_mod_cast this
/-- the integers' part: M = 2 * whole + sticky lies within half a gap of 2 K -/
theorem root_close {n K g w st : Nat} (hw1 : w * w ≤ n) (hw2 : n < (w + 1) * (w + 1)) (hst : st = (w * w != n).toNat)
    (hg : 2 ≤ g) (hge : g % 2 = 0) (hK1 : 2 ^ 52 * g ≤ K) (hK2 : K + g ≤ 2 ^ 53 * g)
    (h1 : 2 ^ 53 * n ≤ 2 ^ 53 * (K * K) + K * K) (h2 : 2 ^ 53 * (K * K) ≤ 2 ^ 53 * n + K * K) :
    2 * K < (2 * w + st) + g ∧ 2 * w + st < 2 * K + g := by
  obtain ⟨h, rfl⟩ : ∃ h, g = 2 * h := ⟨g / 2, by omega⟩
  have hst1 : st ≤ 1 := by subst hst; cases (w * w != n) <;> simp
  have hh : 1 ≤ h := by omega
  have k1 := Nat.mul_le_mul_right h hK1
  have k2 := Nat.mul_le_mul_right K hK2
  have e1 : 2 ^ 52 * (2 * h) * h = 2 ^ 53 * (h * h) := by grind
  have e2 : K * h = h * K := Nat.mul_comm _ _
  have e3 : (K + 2 * h) * K = K * K + 2 * (h * K) := by grind
  have e4 : 2 ^ 53 * (2 * h) * K = 2 ^ 54 * (h * K) := by grind
  rw [e1, e2] at k1
  rw [e3, e4] at k2
  have hK0 : 1 ≤ K := by omega
  have hY : 1 ≤ h * K := Nat.mul_le_mul hh hK0
  -- from a whole v with v + h ≤ K and n ≤ v * v
  have small : ∀ v, v + h ≤ K → n ≤ v * v → False := by
    intro v hv hn
    obtain ⟨x, rfl⟩ : ∃ x, K = v + h + x := ⟨K - (v + h), by omega⟩
    have q : (v + h + x) * (v + h + x) + h * h = v * v + 2 * (h * (v + h + x)) + (x * x + 2 * (v * x)) := by grind
    generalize (v + h + x) * (v + h + x) = X at *
    generalize h * (v + h + x) = Y at *
    generalize h * h = Z at *
    generalize x * x + 2 * (v * x) = R at *
    generalize v * v = V at *
    omega
  constructor
  · apply Nat.lt_of_not_le
    intro c
    by_cases hs : st = 0
    · have hn : w * w = n := by
        rw [hs] at hst
        cases e : (w * w != n) with
        | true => rw [e] at hst; simp at hst
        | false => simpa using e
      exact small w (by omega) (by omega)
    · exact small (w + 1) (by omega) (by omega)
  · apply Nat.lt_of_not_le
    intro c
    have hwk : K + h ≤ w := by omega
    have a1 := Nat.mul_le_mul hwk hwk
    have a2 : (K + h) * (K + h) = K * K + 2 * (h * K) + h * h := by grind
    rw [a2] at a1
    generalize K * K = X at *
    generalize h * K = Y at *
    generalize h * h = Z at *
    generalize w * w = V at *
    omega
/-- the square root of a word near a square: the root itself -/
theorem sqrt_hits (x k : Nat) (q : Int) (hx : fin x) (hk1 : 2 ^ 52 ≤ k) (hk2 : k < 2 ^ 53) (hq1 : -1000 ≤ q) (hq2 : q ≤ 900)
    (h1 : val x ≤ ((k : Rat) * two q) * ((k : Rat) * two q) * (1 + uu)) (h2 : ((k : Rat) * two q) * ((k : Rat) * two q) * (1 - uu) ≤ val x) (h3 : k = 2 ^ 52 → val x = ((k : Rat) * two q) * ((k : Rat) * two q)) :
    ∃ r, F.sqrt x = some r ∧ fin r ∧ val r = (k : Rat) * two q := by
  obtain ⟨s, m, i, e, hm, -⟩ := fin_num hx
  have hv : val x = sg s * (m : Rat) * two i := by unfold val; rw [e]; rfl
  have hk0 : (0 : Rat) < (k : Rat) := by exact_mod_cast (by omega : 0 < k)
  have hD : (0 : Rat) < (k : Rat) * two q := Rat.mul_pos hk0 (two_pos q)
  have hD2 := Rat.mul_pos hD hD
  have u0 := uu_val
  have hpos : 0 < val x := by rw [u0] at h2; grind
  have hi := two_pos i
  have hm0 : m ≠ 0 := by intro c; subst c; rw [hv] at hpos; simp at hpos
  have hmr : (0 : Rat) < (m : Rat) := by exact_mod_cast Nat.pos_of_ne_zero hm0
  have hmi := Rat.mul_pos hmr hi
  have hs : s = false := by
    cases s with
    | false => rfl
    | true => rw [hv] at hpos; simp only [sg, if_true] at hpos; grind
  subst hs
  have hv2 : val x = (m : Rat) * two i := by rw [hv]; simp only [sg]; grind
  have hlm : m.log2 ≤ 52 := by have := (Nat.log2_lt hm0 (k := 53)).2 hm; omega
  -- the root's numbers
  obtain ⟨more, J, hmore, hJ, hbig⟩ : ∃ (more : Nat) (J : Int), more = 2 * 54 - m.log2 + ((i - (2 * 54 - m.log2 : Nat)) % 2).toNat ∧ i - more = 2 * J ∧ 108 ≤ m.log2 + more := by
    refine ⟨_, (i - ((2 * 54 - m.log2 + ((i - (2 * 54 - m.log2 : Nat)) % 2).toNat : Nat) : Int)) / 2, rfl, ?_, ?_⟩ <;> omega
  have hroot : F.sqrt x = some (F.nearest false (2 * Datum.rootFrom (m * 2 ^ more) ((m * 2 ^ more).log2 / 2 + 1) 0 + (Datum.rootFrom (m * 2 ^ more) ((m * 2 ^ more).log2 / 2 + 1) 0 * Datum.rootFrom (m * 2 ^ more) ((m * 2 ^ more).log2 / 2 + 1) 0 != m * 2 ^ more).toNat) (J - 1)) := by
    show ((F.read x).root 54).map F.write = _
    rw [e]
    show (if m = 0 then _ else if false = true then _ else _ : Option Datum).map F.write = _
    rw [if_neg hm0, if_neg (by decide)]
    dsimp only
    rw [← hmore, Nat.shiftLeft_eq, show (i - (more : Int)) / 2 - 1 = J - 1 by omega]
    rfl
  have hn0 : m * 2 ^ more ≠ 0 := Nat.mul_ne_zero hm0 (Nat.pos_iff_ne_zero.1 (Nat.two_pow_pos more))
  obtain ⟨w1, w2⟩ := root_spec _ hn0
  generalize hn : m * 2 ^ more = n at *
  generalize Datum.rootFrom n (n.log2 / 2 + 1) 0 = w at *
  have hvn : val x = (n : Rat) * (two J * two J) := by
    rw [hv2, ← hn, ← two_add]
    rw [show i = ((more : Int)) + (J + J) by omega, two_add, two_nat]
    push_cast; grind
  -- n is large, so q is above J
  have hnbig : 2 ^ 108 ≤ n := by
    rw [← hn]
    have l1 := Nat.log2_self_le hm0
    have := Nat.mul_le_mul_right (2 ^ more) l1
    rw [← Nat.pow_add] at this
    exact Nat.le_trans (Nat.pow_le_pow_right (by decide) hbig) this
  have hqJ : J + 1 ≤ q := by
    apply Int.lt_of_not_ge
    intro c
    have c' : q ≤ J := by omega
    have t1 := two_mono c'
    have tq := two_pos q
    have tJ := two_pos J
    have hk3 : (k : Rat) ≤ 9007199254740992 := by exact_mod_cast (by omega : k ≤ 9007199254740992)
    have a1 : (k : Rat) * two q ≤ 9007199254740992 * two J := by
      have b1 := Rat.mul_le_mul_of_nonneg_right hk3 (Rat.le_of_lt tq)
      have b2 := Rat.mul_le_mul_of_nonneg_left t1 (show (0 : Rat) ≤ 9007199254740992 by decide)
      grind
    have a2 := Rat.mul_le_mul_of_nonneg_left a1 (Rat.le_of_lt hD)
    have a3 := Rat.mul_le_mul_of_nonneg_right a1 (show (0 : Rat) ≤ 9007199254740992 * two J by grind)
    have hnr : ((2 ^ 108 : Nat) : Rat) ≤ (n : Rat) := by exact_mod_cast hnbig
    have tJJ := Rat.mul_pos tJ tJ
    have a4 := Rat.mul_le_mul_of_nonneg_right hnr (Rat.le_of_lt tJJ)
    have h108 : ((2 ^ 108 : Nat) : Rat) = 324518553658426726783156020576256 := by decide +kernel
    rw [h108] at a4
    have a5 : 9007199254740992 * two J * (9007199254740992 * two J) = 81129638414606681695789005144064 * (two J * two J) := by grind
    rw [a5] at a3
    rw [hvn, u0] at h1
    have a6 : (k : Rat) * two q * ((k : Rat) * two q) ≤ 81129638414606681695789005144064 * (two J * two J) := Rat.le_trans a2 a3
    clear a2 a3 a5 a1 t1 hD2 h2 h3 hpos hv hv2 hmi
    generalize (k : Rat) * two q * ((k : Rat) * two q) = DD at *
    generalize two J * two J = JJ at *
    generalize (n : Rat) = nn at *
    have a7 : nn * JJ ≤ DD * (1 + 1 / 9007199254740992) := h1
    generalize nn * JJ = NJ at *
    grind
  obtain ⟨t, ht⟩ : ∃ t : Nat, q = J + 1 + t := ⟨(q - (J + 1)).toNat, by omega⟩
  have hg1 : 2 ^ (t + 1) = 2 * 2 ^ t := by rw [Nat.pow_succ]; omega
  have hg0 : 0 < 2 ^ t := Nat.two_pow_pos t
  have hDK : (k : Rat) * two q = ((k * 2 ^ (t + 1) : Nat) : Rat) * two J := by
    rw [ht, show J + 1 + (t : Int) = ((t + 1 : Nat) : Int) + J by omega, two_add, two_nat]
    push_cast; grind
  rw [hDK] at h1 h2 h3
  have hJJ := Rat.mul_pos (two_pos J) (two_pos J)
  generalize hKd : k * 2 ^ (t + 1) = K at *
  have hsq : ((K : Rat) * two J) * ((K : Rat) * two J) = ((K * K : Nat) : Rat) * (two J * two J) := by push_cast; grind
  rw [hsq, hvn, u0] at h1 h2
  rw [hsq, hvn] at h3
  have i1 : 2 ^ 53 * n ≤ 2 ^ 53 * (K * K) + K * K := by
    have z : (9007199254740992 : Rat) * (n : Rat) ≤ 9007199254740992 * ((K * K : Nat) : Rat) + ((K * K : Nat) : Rat) := by
      refine Rat.le_of_mul_le_mul_right (c := two J * two J) ?_ hJJ
      generalize ((K * K : Nat) : Rat) = KK at *
      generalize two J * two J = JJ at *
      grind
    exact_mod_cast z
  have i2 : 2 ^ 53 * (K * K) ≤ 2 ^ 53 * n + K * K := by
    have z : (9007199254740992 : Rat) * ((K * K : Nat) : Rat) ≤ 9007199254740992 * (n : Rat) + ((K * K : Nat) : Rat) := by
      refine Rat.le_of_mul_le_mul_right (c := two J * two J) ?_ hJJ
      generalize ((K * K : Nat) : Rat) = KK at *
      generalize two J * two J = JJ at *
      grind
    exact_mod_cast z
  have g1 : 2 ^ 52 * 2 ^ (t + 1) ≤ K := by rw [← hKd]; exact Nat.mul_le_mul_right _ hk1
  have g2 : K + 2 ^ (t + 1) ≤ 2 ^ 53 * 2 ^ (t + 1) := by rw [← hKd, ← Nat.succ_mul]; exact Nat.mul_le_mul_right _ hk2
  obtain ⟨c1, c2⟩ := root_close w1 w2 rfl (by omega) (by omega) g1 g2 i1 i2
  have hT : 2 ^ (t + 2) = 2 * 2 ^ (t + 1) := by rw [Nat.pow_succ]; omega
  have hkT : k * 2 ^ (t + 2) = 2 * K := by rw [hT, ← hKd]; grind
  have hM : 2 ^ 52 * 2 ^ (t + 2) ≤ 2 * w + (w * w != n).toNat := by
    by_cases c : k = 2 ^ 52
    · have e1 := h3 c
      have e2 : n = K * K := by
        have : (n : Rat) * (two J * two J) = ((K * K : Nat) : Rat) * (two J * two J) := e1
        rw [← two_add] at this
        exact rat_two_cancel this
      have hw : w = K := by
        have a : w ≤ K := by
          apply Nat.le_of_not_lt; intro c
          have := Nat.mul_le_mul (show K + 1 ≤ w by omega) (show K + 1 ≤ w by omega)
          have q : (K + 1) * (K + 1) = K * K + 2 * K + 1 := by grind
          omega
        have b : K ≤ w := by
          apply Nat.le_of_not_lt; intro c
          have := Nat.mul_le_mul (show w + 1 ≤ K by omega) (show w + 1 ≤ K by omega)
          omega
        omega
      rw [hw, hT]; omega
    · have : 2 ^ 52 + 1 ≤ k := by omega
      have := Nat.mul_le_mul_right (2 ^ (t + 1)) this
      rw [hKd, Nat.add_mul] at this
      rw [hT]; omega
  obtain ⟨f1, f2⟩ := nearest_hits false (2 * w + (w * w != n).toNat) k (t + 2) (J - 1) hk1 hk2 (by rw [hkT, hT]; omega) (by rw [hkT, hT]; omega) hM (by push_cast; omega) (by push_cast; omega)
  refine ⟨_, hroot, f1, ?_⟩
  rw [f2]
  simp only [sg]
  rw [show J - 1 + ((t + 2 : Nat) : Int) = q by push_cast; omega]
  grind
/-- a rounding without the subnormal term -/
theorem nearest_rel (s : Bool) (mag : Nat) (place : Int) (h : mag ≠ 0) (hlo : -1022 ≤ place + mag.log2) (hb : place + mag.log2 ≤ 1022) :
    fin (F.nearest s mag place) ∧ Near (val (F.nearest s mag place)) (sg s * ((mag : Rat) * two place)) (uu * ((mag : Rat) * two place)) := by
  obtain ⟨n1, n2⟩ := nearest_val s mag place h hb
  refine ⟨n1, ?_⟩
  rw [n2]
  obtain ⟨k1, k2⟩ := kept_err s mag place
  have hh : two (ulast mag place - 1) ≤ uu * ((mag : Rat) * two place) := by
    have l1 : 2 ^ mag.log2 ≤ mag := Nat.log2_self_le h
    have l2 : ((2 ^ mag.log2 : Nat) : Rat) ≤ (mag : Rat) := by exact_mod_cast l1
    have hl : ulast mag place = max (place + mag.log2 - 52) (-1074) := rfl
    have h1 := Rat.mul_le_mul_of_nonneg_right l2 (Rat.le_of_lt (two_pos place))
    have h2 := Rat.mul_le_mul_of_nonneg_left h1 (Rat.le_of_lt uu_pos)
    have : ulast mag place - 1 = -53 + ((mag.log2 : Int) + place) := by omega
    rw [this, two_add, two_add, two_nat]
    exact h2
  generalize (ukept s mag place : Rat) * two (ulast mag place) = K at *
  generalize two (ulast mag place - 1) = H at *
  generalize (mag : Rat) * two place = R at *
  unfold Near
  cases s <;> simp only [sg] <;> constructor <;> grind
theorem sqrt_sq (d : Nat) (hw : d < 2 ^ 64) (fd : fin d) (hlo : two (-500) ≤ val (absB d)) (hhi : val (absB d) ≤ two 500) :
    ∃ p, floatBits .mul .f64 d d = some p ∧ fin p ∧ (∀ x, fin x → val x = val p → ∃ r, F.sqrt x = some r ∧ fin r ∧ val r = val (absB d)) := by
  obtain ⟨s, m, q, e, hm, hq1, hq2, hsub⟩ := fin_num fd
  obtain ⟨ga, g0, g1, g2⟩ := absB_val hw fd
  have hv : val d = sg s * (m : Rat) * two q := by unfold val; rw [e]; rfl
  have tq := two_pos q
  have hmn : (0 : Rat) ≤ (m : Rat) := by exact_mod_cast Nat.zero_le m
  have hmq := Rat.mul_nonneg hmn (Rat.le_of_lt tq)
  have hav : val (absB d) = (m : Rat) * two q := by
    rw [hv] at g2
    cases s <;> simp only [sg] at g2 <;> grind
  have hm52 : 2 ^ 52 ≤ m := by
    apply Nat.le_of_not_lt
    intro c
    have := hsub c
    subst this
    have a : (m : Rat) ≤ 4503599627370496 := by exact_mod_cast (by omega : m ≤ 4503599627370496)
    have b := Rat.mul_le_mul_of_nonneg_right a (Rat.le_of_lt tq)
    have c2 : (4503599627370496 : Rat) * two (-1074) < two (-500) := by unfold two; decide +kernel
    rw [hav] at hlo
    grind
  have hm0 : m ≠ 0 := by omega
  have hq3 : q ≤ 448 := by
    apply Int.le_of_lt_add_one
    apply two_lt_inv
    have a : (4503599627370496 : Rat) ≤ (m : Rat) := by exact_mod_cast hm52
    have b := Rat.mul_le_mul_of_nonneg_right a (Rat.le_of_lt tq)
    have c2 : two 500 < 4503599627370496 * two 449 := by unfold two; decide +kernel
    rw [hav] at hhi
    have : 4503599627370496 * two q < 4503599627370496 * two 449 := by grind
    exact Rat.lt_of_mul_lt_mul_left this (by decide)
  have hq4 : -553 ≤ q := by
    apply Int.le_of_lt_add_one
    apply two_lt_inv
    have a : (m : Rat) ≤ 9007199254740992 := by exact_mod_cast (by omega : m ≤ 9007199254740992)
    have b := Rat.mul_le_mul_of_nonneg_right a (Rat.le_of_lt tq)
    have c2 : (9007199254740992 : Rat) * two (-554) < two (-500) := by unfold two; decide +kernel
    rw [hav] at hlo
    have h2 : two (q + 1) = two q * 2 := by rw [two_add]; rfl
    have h3 : two (-553) = two (-554) * 2 := by rw [show (-553 : Int) = -554 + 1 by decide, two_add]; rfl
    rw [h2, h3]
    grind
  have hl1 : 104 ≤ (m * m).log2 := (Nat.le_log2 (Nat.mul_ne_zero hm0 hm0)).2 (by
    have := Nat.mul_le_mul hm52 hm52
    rw [← Nat.pow_add] at this; exact this)
  have hl2 : (m * m).log2 < 106 := (Nat.log2_lt (Nat.mul_ne_zero hm0 hm0)).2 (by
    have := Nat.mul_lt_mul'' hm hm
    rw [← Nat.pow_add] at this; exact this)
  have hp : floatBits .mul .f64 d d = some (F.nearest false (m * m) (q + q)) := by
    show ((F.read d).product (F.read d)).map F.write = _
    rw [e]
    show (some (Datum.number (s ^^ s) (m * m) (q + q))).map F.write = _
    rw [Bool.xor_self]; rfl
  obtain ⟨n1, n2⟩ := nearest_rel false (m * m) (q + q) (Nat.mul_ne_zero hm0 hm0) (by omega) (by omega)
  refine ⟨_, hp, n1, ?_⟩
  intro x fx hx
  have hsq : ((m * m : Nat) : Rat) * two (q + q) = ((m : Rat) * two q) * ((m : Rat) * two q) := by rw [two_add]; push_cast; grind
  unfold Near at n2
  simp only [sg] at n2
  rw [hsq] at n2
  rw [hav]
  refine sqrt_hits x m q fx hm52 hm (by omega) (by omega) ?_ ?_ ?_
  · rw [hx]; grind
  · rw [hx]; grind
  · intro c
    rw [hx]
    have := (nearest_exact false (m * m) (q + q) (2 ^ 52) (q + q + 52) (by decide) (by omega) (by omega) (by
      rw [c, two_add (q + q) 52]
      have : two 52 = 4503599627370496 := by unfold two; decide +kernel
      rw [this]; push_cast; grind)).2
    rw [this, Rat.mul_assoc, hsq]
    simp only [sg]; grind
theorem run53 (x r : Nat) (w : World) (h : F.sqrt x = some r) : (callFunc 53 #[.float .f64 x]).run Try.prog w = .ok (.value (.float .f64 r)) w := by
  rw [run_callFunc_extern (e := Extern.MathSqrt.sqrt) Try.func53 (by kernel_rfl) (by kernel_rfl) (by kernel_rfl) (by kernel_rfl)]
  have : FloatKind.f64.format.sqrt x = some r := h
  change (Sem.run Try.prog (match FloatKind.f64.format.sqrt x with | some r => (pure (.float .f64 r) : Sem Value) | none => (do pure (.float .f64 (← choose (.nanBits .f64 x x))))) w).andThen _ = _
  rw [this]; rfl
theorem msqrt_c (x r : Nat) (w : World) (h : F.sqrt x = some r) : Calls Try.prog 47 #[.float .f64 x] w fun e w' => e = .returned (.float .f64 r) ∧ w = w' := by
  have k := fun w => run53 x r w h
  clear h
  go_enter Try.func47, Try.ntmps47
  go_wp2
  go_ret
  exact ⟨rfl, rfl⟩
set_option maxRecDepth 100000 in
theorem sqrt_c (x r : Nat) (w : World) (h : F.sqrt x = some r) : Calls Try.prog 38 #[fl x] w fun e w' => e = .returned (fl r) ∧ Below w.heap.size w w' := by
  have st := st_fl
  have H := Lib.hid h
  clear h
  go_enter Try.func38, Try.ntmps38
  go_wp2_with (first | (go_at_call 47; refine (msqrt_c _ _ _ H.out).mono ?_; rintro e w' ⟨rfl, rfl⟩) | (go_at_call 20; refine (new_c _ _).mono ?_; rintro e w' ⟨rfl, rfl⟩))
  refine bodyPost_ret (v := fl r) (by simp [results, Try.results38, go_sem]) rfl ⟨rfl, ?_⟩
  repeat (first | exact Below.refl _ _ | refine Below.alloc ?_ (by first | omega | (simp <;> omega)) _)
set_option maxRecDepth 100000 in
theorem sq_c (x r : Nat) (w : World) (h : floatBits .mul .f64 x x = some r) : Calls Try.prog 37 #[fl x] w fun e w' => e = .returned (fl r) ∧ Below w.heap.size w w' := by
  have st := st_fl
  have H := Lib.hid h
  clear h
  go_enter Try.func37, Try.ntmps37
  go_wp2_with (go_at_call 36; (with_reducible refine (mul_c _ _ _ _ H.out).mono ?_); rintro e w' ⟨rfl, hb⟩; have c0 := after_call (a := ⟨w.heap.size + 1, 0, none⟩) (v := .float .f64 0) hb (by simp [go_sem]); have f0 := after_frozen (a := ⟨w.heap.size + 1, 0, none⟩) (v := .float .f64 0) hb (by simp [go_sem]) (by simp [go_sem]); replace hb := (show Below w.heap.size w _ by repeat (first | exact Below.refl _ _ | refine Below.alloc ?_ (by first | omega | (simp <;> omega)) _)).trans (hb.mono (by first | omega | (simp <;> omega))))
  refine bodyPost_ret (v := fl r) (by simp [results, Try.results37, go_sem, c0]) rfl ⟨rfl, ?_⟩
  repeat (first | exact hb | refine Below.setCell ?_ (by first | omega | (simp <;> omega)) _)
structure Eok (l1 a1 b1 l2 a2 b2 r : Nat) (d0 d1 d2 q0 q1 q2 s1 s2 : Nat) : Prop where
  h0 : floatBits .sub .f64 l1 l2 = some d0
  h1 : floatBits .sub .f64 a1 a2 = some d1
  h2 : floatBits .sub .f64 b1 b2 = some d2
  g0 : floatBits .mul .f64 d0 d0 = some q0
  g1 : floatBits .mul .f64 d1 d1 = some q1
  g2 : floatBits .mul .f64 d2 d2 = some q2
  k1 : floatBits .add .f64 q0 q1 = some s1
  k2 : floatBits .add .f64 s1 q2 = some s2
  rt : F.sqrt s2 = some r
set_option maxRecDepth 100000 in
set_option maxHeartbeats 2000000 in
theorem delta_c (l1 a1 b1 l2 a2 b2 r d0 d1 d2 q0 q1 q2 s1 s2 : Nat) (w : World) (E : Eok l1 a1 b1 l2 a2 b2 r d0 d1 d2 q0 q1 q2 s1 s2) :
    Calls Try.prog 24 #[fl l1, fl a1, fl b1, fl l2, fl a2, fl b2] w fun e w' => e = .returned (fl r) ∧ Below w.heap.size w w' := by
  have st := st_fl
  have H := Lib.hid E
  clear E
  go_enter Try.func24, Try.ntmps24
  go_wp2_with fail
  (with_reducible refine (sub_c _ _ _ _ H.out.h0).mono ?_)
  rintro e u0 ⟨rfl, hbu0⟩
  have u0c0 : u0.cell? ⟨w.heap.size, 0, none⟩ = some (.float .f64 l1) := after_call hbu0 (by simp [go_sem])
  have u0c1 : u0.cell? ⟨w.heap.size + 1, 0, none⟩ = some (.float .f64 a1) := after_call hbu0 (by simp [go_sem])
  have u0c2 : u0.cell? ⟨w.heap.size + 1 + 1, 0, none⟩ = some (.float .f64 b1) := after_call hbu0 (by simp [go_sem])
  have u0c3 : u0.cell? ⟨w.heap.size + 1 + 1 + 1, 0, none⟩ = some (.float .f64 l2) := after_call hbu0 (by simp [go_sem])
  have u0c4 : u0.cell? ⟨w.heap.size + 1 + 1 + 1 + 1, 0, none⟩ = some (.float .f64 a2) := after_call hbu0 (by simp [go_sem])
  have u0c5 : u0.cell? ⟨w.heap.size + 1 + 1 + 1 + 1 + 1, 0, none⟩ = some (.float .f64 b2) := after_call hbu0 (by simp [go_sem])
  have u0c6 : u0.cell? ⟨w.heap.size + 1 + 1 + 1 + 1 + 1 + 1, 0, none⟩ = some (.float .f64 0) := after_call hbu0 (by simp [go_sem])
  have u0f : u0.frozen? ⟨w.heap.size + 1 + 1 + 1 + 1 + 1 + 1, 0, none⟩ = false := after_frozen (v := .float .f64 0) hbu0 (by simp [go_sem]) (by simp [go_sem])
  have u0b : Below w.heap.size w u0 := (show Below w.heap.size w _ by repeat (first | exact Below.refl _ _ | refine Below.alloc ?_ (by first | omega | (simp <;> omega)) _)).trans (hbu0.mono (by first | omega | (simp <;> omega)))
  clear hbu0
  go_wp2_with fail
  (with_reducible refine (sq_c _ _ _ H.out.g0).mono ?_)
  rintro e v0 ⟨rfl, hbv0⟩
  have v0c0 : v0.cell? ⟨w.heap.size, 0, none⟩ = some (.float .f64 l1) := after_call hbv0 (u0c0)
  have v0c1 : v0.cell? ⟨w.heap.size + 1, 0, none⟩ = some (.float .f64 a1) := after_call hbv0 (u0c1)
  have v0c2 : v0.cell? ⟨w.heap.size + 1 + 1, 0, none⟩ = some (.float .f64 b1) := after_call hbv0 (u0c2)
  have v0c3 : v0.cell? ⟨w.heap.size + 1 + 1 + 1, 0, none⟩ = some (.float .f64 l2) := after_call hbv0 (u0c3)
  have v0c4 : v0.cell? ⟨w.heap.size + 1 + 1 + 1 + 1, 0, none⟩ = some (.float .f64 a2) := after_call hbv0 (u0c4)
  have v0c5 : v0.cell? ⟨w.heap.size + 1 + 1 + 1 + 1 + 1, 0, none⟩ = some (.float .f64 b2) := after_call hbv0 (u0c5)
  have v0c6 : v0.cell? ⟨w.heap.size + 1 + 1 + 1 + 1 + 1 + 1, 0, none⟩ = some (.float .f64 0) := after_call hbv0 (u0c6)
  have v0f : v0.frozen? ⟨w.heap.size + 1 + 1 + 1 + 1 + 1 + 1, 0, none⟩ = false := after_frozen (v := .float .f64 0) hbv0 u0c6 u0f
  have v0b : Below w.heap.size w v0 := u0b.trans (hbv0.mono u0b.size)
  clear u0c0 u0c1 u0c2 u0c3 u0c4 u0c5 u0c6 u0f hbv0
  have v0a0 : (v0.alloc (.cells #[.float .f64 q0] 38)).cell? ⟨w.heap.size, 0, none⟩ = some (.float .f64 l1) := after_call ((Below.refl _ _).alloc (Nat.le_refl _) _) v0c0
  have v0a1 : (v0.alloc (.cells #[.float .f64 q0] 38)).cell? ⟨w.heap.size + 1, 0, none⟩ = some (.float .f64 a1) := after_call ((Below.refl _ _).alloc (Nat.le_refl _) _) v0c1
  have v0a2 : (v0.alloc (.cells #[.float .f64 q0] 38)).cell? ⟨w.heap.size + 1 + 1, 0, none⟩ = some (.float .f64 b1) := after_call ((Below.refl _ _).alloc (Nat.le_refl _) _) v0c2
  have v0a3 : (v0.alloc (.cells #[.float .f64 q0] 38)).cell? ⟨w.heap.size + 1 + 1 + 1, 0, none⟩ = some (.float .f64 l2) := after_call ((Below.refl _ _).alloc (Nat.le_refl _) _) v0c3
  have v0a4 : (v0.alloc (.cells #[.float .f64 q0] 38)).cell? ⟨w.heap.size + 1 + 1 + 1 + 1, 0, none⟩ = some (.float .f64 a2) := after_call ((Below.refl _ _).alloc (Nat.le_refl _) _) v0c4
  have v0a5 : (v0.alloc (.cells #[.float .f64 q0] 38)).cell? ⟨w.heap.size + 1 + 1 + 1 + 1 + 1, 0, none⟩ = some (.float .f64 b2) := after_call ((Below.refl _ _).alloc (Nat.le_refl _) _) v0c5
  have v0a6 : (v0.alloc (.cells #[.float .f64 q0] 38)).cell? ⟨w.heap.size + 1 + 1 + 1 + 1 + 1 + 1, 0, none⟩ = some (.float .f64 0) := after_call ((Below.refl _ _).alloc (Nat.le_refl _) _) v0c6
  have v0a7 : (v0.alloc (.cells #[.float .f64 q0] 38)).cell? ⟨v0.heap.size, 0, none⟩ = some (.float .f64 q0) := by simp [go_sem]
  have v0g : (v0.alloc (.cells #[.float .f64 q0] 38)).frozen? ⟨w.heap.size + 1 + 1 + 1 + 1 + 1 + 1, 0, none⟩ = false := after_frozen (v := .float .f64 0) ((Below.refl _ _).alloc (Nat.le_refl _) _) v0c6 v0f
  have v0k : Below w.heap.size w (v0.alloc (.cells #[.float .f64 q0] 38)) := v0b.alloc v0b.size _
  clear v0c0 v0c1 v0c2 v0c3 v0c4 v0c5 v0c6 v0f
  go_wp2_with fail
  (with_reducible refine (sub_c _ _ _ _ H.out.h1).mono ?_)
  rintro e u1 ⟨rfl, hbu1⟩
  have u1c0 : u1.cell? ⟨w.heap.size, 0, none⟩ = some (.float .f64 l1) := after_call hbu1 (v0a0)
  have u1c1 : u1.cell? ⟨w.heap.size + 1, 0, none⟩ = some (.float .f64 a1) := after_call hbu1 (v0a1)
  have u1c2 : u1.cell? ⟨w.heap.size + 1 + 1, 0, none⟩ = some (.float .f64 b1) := after_call hbu1 (v0a2)
  have u1c3 : u1.cell? ⟨w.heap.size + 1 + 1 + 1, 0, none⟩ = some (.float .f64 l2) := after_call hbu1 (v0a3)
  have u1c4 : u1.cell? ⟨w.heap.size + 1 + 1 + 1 + 1, 0, none⟩ = some (.float .f64 a2) := after_call hbu1 (v0a4)
  have u1c5 : u1.cell? ⟨w.heap.size + 1 + 1 + 1 + 1 + 1, 0, none⟩ = some (.float .f64 b2) := after_call hbu1 (v0a5)
  have u1c6 : u1.cell? ⟨w.heap.size + 1 + 1 + 1 + 1 + 1 + 1, 0, none⟩ = some (.float .f64 0) := after_call hbu1 (v0a6)
  have u1c7 : u1.cell? ⟨v0.heap.size, 0, none⟩ = some (.float .f64 q0) := after_call hbu1 (v0a7)
  have u1f : u1.frozen? ⟨w.heap.size + 1 + 1 + 1 + 1 + 1 + 1, 0, none⟩ = false := after_frozen (v := .float .f64 0) hbu1 v0a6 v0g
  have u1b : Below w.heap.size w u1 := v0k.trans (hbu1.mono (Nat.le_trans v0b.size (by simp)))
  clear v0a0 v0a1 v0a2 v0a3 v0a4 v0a5 v0a6 v0a7 v0g v0k hbu1
  go_wp2_with fail
  (with_reducible refine (sq_c _ _ _ H.out.g1).mono ?_)
  rintro e v1 ⟨rfl, hbv1⟩
  have v1c0 : v1.cell? ⟨w.heap.size, 0, none⟩ = some (.float .f64 l1) := after_call hbv1 (u1c0)
  have v1c1 : v1.cell? ⟨w.heap.size + 1, 0, none⟩ = some (.float .f64 a1) := after_call hbv1 (u1c1)
  have v1c2 : v1.cell? ⟨w.heap.size + 1 + 1, 0, none⟩ = some (.float .f64 b1) := after_call hbv1 (u1c2)
  have v1c3 : v1.cell? ⟨w.heap.size + 1 + 1 + 1, 0, none⟩ = some (.float .f64 l2) := after_call hbv1 (u1c3)
  have v1c4 : v1.cell? ⟨w.heap.size + 1 + 1 + 1 + 1, 0, none⟩ = some (.float .f64 a2) := after_call hbv1 (u1c4)
  have v1c5 : v1.cell? ⟨w.heap.size + 1 + 1 + 1 + 1 + 1, 0, none⟩ = some (.float .f64 b2) := after_call hbv1 (u1c5)
  have v1c6 : v1.cell? ⟨w.heap.size + 1 + 1 + 1 + 1 + 1 + 1, 0, none⟩ = some (.float .f64 0) := after_call hbv1 (u1c6)
  have v1c7 : v1.cell? ⟨v0.heap.size, 0, none⟩ = some (.float .f64 q0) := after_call hbv1 (u1c7)
  have v1f : v1.frozen? ⟨w.heap.size + 1 + 1 + 1 + 1 + 1 + 1, 0, none⟩ = false := after_frozen (v := .float .f64 0) hbv1 u1c6 u1f
  have v1b : Below w.heap.size w v1 := u1b.trans (hbv1.mono u1b.size)
  clear u1c0 u1c1 u1c2 u1c3 u1c4 u1c5 u1c6 u1c7 u1f hbv1
  have v1a0 : (v1.alloc (.cells #[.float .f64 q1] 38)).cell? ⟨w.heap.size, 0, none⟩ = some (.float .f64 l1) := after_call ((Below.refl _ _).alloc (Nat.le_refl _) _) v1c0
  have v1a1 : (v1.alloc (.cells #[.float .f64 q1] 38)).cell? ⟨w.heap.size + 1, 0, none⟩ = some (.float .f64 a1) := after_call ((Below.refl _ _).alloc (Nat.le_refl _) _) v1c1
  have v1a2 : (v1.alloc (.cells #[.float .f64 q1] 38)).cell? ⟨w.heap.size + 1 + 1, 0, none⟩ = some (.float .f64 b1) := after_call ((Below.refl _ _).alloc (Nat.le_refl _) _) v1c2
  have v1a3 : (v1.alloc (.cells #[.float .f64 q1] 38)).cell? ⟨w.heap.size + 1 + 1 + 1, 0, none⟩ = some (.float .f64 l2) := after_call ((Below.refl _ _).alloc (Nat.le_refl _) _) v1c3
  have v1a4 : (v1.alloc (.cells #[.float .f64 q1] 38)).cell? ⟨w.heap.size + 1 + 1 + 1 + 1, 0, none⟩ = some (.float .f64 a2) := after_call ((Below.refl _ _).alloc (Nat.le_refl _) _) v1c4
  have v1a5 : (v1.alloc (.cells #[.float .f64 q1] 38)).cell? ⟨w.heap.size + 1 + 1 + 1 + 1 + 1, 0, none⟩ = some (.float .f64 b2) := after_call ((Below.refl _ _).alloc (Nat.le_refl _) _) v1c5
  have v1a6 : (v1.alloc (.cells #[.float .f64 q1] 38)).cell? ⟨w.heap.size + 1 + 1 + 1 + 1 + 1 + 1, 0, none⟩ = some (.float .f64 0) := after_call ((Below.refl _ _).alloc (Nat.le_refl _) _) v1c6
  have v1a7 : (v1.alloc (.cells #[.float .f64 q1] 38)).cell? ⟨v0.heap.size, 0, none⟩ = some (.float .f64 q0) := after_call ((Below.refl _ _).alloc (Nat.le_refl _) _) v1c7
  have v1a8 : (v1.alloc (.cells #[.float .f64 q1] 38)).cell? ⟨v1.heap.size, 0, none⟩ = some (.float .f64 q1) := by simp [go_sem]
  have v1g : (v1.alloc (.cells #[.float .f64 q1] 38)).frozen? ⟨w.heap.size + 1 + 1 + 1 + 1 + 1 + 1, 0, none⟩ = false := after_frozen (v := .float .f64 0) ((Below.refl _ _).alloc (Nat.le_refl _) _) v1c6 v1f
  have v1k : Below w.heap.size w (v1.alloc (.cells #[.float .f64 q1] 38)) := v1b.alloc v1b.size _
  clear v1c0 v1c1 v1c2 v1c3 v1c4 v1c5 v1c6 v1c7 v1f
  go_wp2_with fail
  (with_reducible refine (sub_c _ _ _ _ H.out.h2).mono ?_)
  rintro e u2 ⟨rfl, hbu2⟩
  have u2c0 : u2.cell? ⟨w.heap.size, 0, none⟩ = some (.float .f64 l1) := after_call hbu2 (v1a0)
  have u2c1 : u2.cell? ⟨w.heap.size + 1, 0, none⟩ = some (.float .f64 a1) := after_call hbu2 (v1a1)
  have u2c2 : u2.cell? ⟨w.heap.size + 1 + 1, 0, none⟩ = some (.float .f64 b1) := after_call hbu2 (v1a2)
  have u2c3 : u2.cell? ⟨w.heap.size + 1 + 1 + 1, 0, none⟩ = some (.float .f64 l2) := after_call hbu2 (v1a3)
  have u2c4 : u2.cell? ⟨w.heap.size + 1 + 1 + 1 + 1, 0, none⟩ = some (.float .f64 a2) := after_call hbu2 (v1a4)
  have u2c5 : u2.cell? ⟨w.heap.size + 1 + 1 + 1 + 1 + 1, 0, none⟩ = some (.float .f64 b2) := after_call hbu2 (v1a5)
  have u2c6 : u2.cell? ⟨w.heap.size + 1 + 1 + 1 + 1 + 1 + 1, 0, none⟩ = some (.float .f64 0) := after_call hbu2 (v1a6)
  have u2c7 : u2.cell? ⟨v0.heap.size, 0, none⟩ = some (.float .f64 q0) := after_call hbu2 (v1a7)
  have u2c8 : u2.cell? ⟨v1.heap.size, 0, none⟩ = some (.float .f64 q1) := after_call hbu2 (v1a8)
  have u2f : u2.frozen? ⟨w.heap.size + 1 + 1 + 1 + 1 + 1 + 1, 0, none⟩ = false := after_frozen (v := .float .f64 0) hbu2 v1a6 v1g
  have u2b : Below w.heap.size w u2 := v1k.trans (hbu2.mono (Nat.le_trans v1b.size (by simp)))
  clear v1a0 v1a1 v1a2 v1a3 v1a4 v1a5 v1a6 v1a7 v1a8 v1g v1k hbu2
  go_wp2_with fail
  (with_reducible refine (sq_c _ _ _ H.out.g2).mono ?_)
  rintro e v2 ⟨rfl, hbv2⟩
  have v2c0 : v2.cell? ⟨w.heap.size, 0, none⟩ = some (.float .f64 l1) := after_call hbv2 (u2c0)
  have v2c1 : v2.cell? ⟨w.heap.size + 1, 0, none⟩ = some (.float .f64 a1) := after_call hbv2 (u2c1)
  have v2c2 : v2.cell? ⟨w.heap.size + 1 + 1, 0, none⟩ = some (.float .f64 b1) := after_call hbv2 (u2c2)
  have v2c3 : v2.cell? ⟨w.heap.size + 1 + 1 + 1, 0, none⟩ = some (.float .f64 l2) := after_call hbv2 (u2c3)
  have v2c4 : v2.cell? ⟨w.heap.size + 1 + 1 + 1 + 1, 0, none⟩ = some (.float .f64 a2) := after_call hbv2 (u2c4)
  have v2c5 : v2.cell? ⟨w.heap.size + 1 + 1 + 1 + 1 + 1, 0, none⟩ = some (.float .f64 b2) := after_call hbv2 (u2c5)
  have v2c6 : v2.cell? ⟨w.heap.size + 1 + 1 + 1 + 1 + 1 + 1, 0, none⟩ = some (.float .f64 0) := after_call hbv2 (u2c6)
  have v2c7 : v2.cell? ⟨v0.heap.size, 0, none⟩ = some (.float .f64 q0) := after_call hbv2 (u2c7)
  have v2c8 : v2.cell? ⟨v1.heap.size, 0, none⟩ = some (.float .f64 q1) := after_call hbv2 (u2c8)
  have v2f : v2.frozen? ⟨w.heap.size + 1 + 1 + 1 + 1 + 1 + 1, 0, none⟩ = false := after_frozen (v := .float .f64 0) hbv2 u2c6 u2f
  have v2b : Below w.heap.size w v2 := u2b.trans (hbv2.mono u2b.size)
  clear u2c0 u2c1 u2c2 u2c3 u2c4 u2c5 u2c6 u2c7 u2c8 u2f hbv2
  have v2a0 : (v2.alloc (.cells #[.float .f64 q2] 38)).cell? ⟨w.heap.size, 0, none⟩ = some (.float .f64 l1) := after_call ((Below.refl _ _).alloc (Nat.le_refl _) _) v2c0
  have v2a1 : (v2.alloc (.cells #[.float .f64 q2] 38)).cell? ⟨w.heap.size + 1, 0, none⟩ = some (.float .f64 a1) := after_call ((Below.refl _ _).alloc (Nat.le_refl _) _) v2c1
  have v2a2 : (v2.alloc (.cells #[.float .f64 q2] 38)).cell? ⟨w.heap.size + 1 + 1, 0, none⟩ = some (.float .f64 b1) := after_call ((Below.refl _ _).alloc (Nat.le_refl _) _) v2c2
  have v2a3 : (v2.alloc (.cells #[.float .f64 q2] 38)).cell? ⟨w.heap.size + 1 + 1 + 1, 0, none⟩ = some (.float .f64 l2) := after_call ((Below.refl _ _).alloc (Nat.le_refl _) _) v2c3
  have v2a4 : (v2.alloc (.cells #[.float .f64 q2] 38)).cell? ⟨w.heap.size + 1 + 1 + 1 + 1, 0, none⟩ = some (.float .f64 a2) := after_call ((Below.refl _ _).alloc (Nat.le_refl _) _) v2c4
  have v2a5 : (v2.alloc (.cells #[.float .f64 q2] 38)).cell? ⟨w.heap.size + 1 + 1 + 1 + 1 + 1, 0, none⟩ = some (.float .f64 b2) := after_call ((Below.refl _ _).alloc (Nat.le_refl _) _) v2c5
  have v2a6 : (v2.alloc (.cells #[.float .f64 q2] 38)).cell? ⟨w.heap.size + 1 + 1 + 1 + 1 + 1 + 1, 0, none⟩ = some (.float .f64 0) := after_call ((Below.refl _ _).alloc (Nat.le_refl _) _) v2c6
  have v2a7 : (v2.alloc (.cells #[.float .f64 q2] 38)).cell? ⟨v0.heap.size, 0, none⟩ = some (.float .f64 q0) := after_call ((Below.refl _ _).alloc (Nat.le_refl _) _) v2c7
  have v2a8 : (v2.alloc (.cells #[.float .f64 q2] 38)).cell? ⟨v1.heap.size, 0, none⟩ = some (.float .f64 q1) := after_call ((Below.refl _ _).alloc (Nat.le_refl _) _) v2c8
  have v2a9 : (v2.alloc (.cells #[.float .f64 q2] 38)).cell? ⟨v2.heap.size, 0, none⟩ = some (.float .f64 q2) := by simp [go_sem]
  have v2g : (v2.alloc (.cells #[.float .f64 q2] 38)).frozen? ⟨w.heap.size + 1 + 1 + 1 + 1 + 1 + 1, 0, none⟩ = false := after_frozen (v := .float .f64 0) ((Below.refl _ _).alloc (Nat.le_refl _) _) v2c6 v2f
  have v2k : Below w.heap.size w (v2.alloc (.cells #[.float .f64 q2] 38)) := v2b.alloc v2b.size _
  clear v2c0 v2c1 v2c2 v2c3 v2c4 v2c5 v2c6 v2c7 v2c8 v2f
  go_wp2_with fail
  refine wp_gen fun W hW => ?_
  rw [← hW] at v2a6 v2a7 v2a8 v2a9 v2g v2k
  clear v2a0 v2a1 v2a2 v2a3 v2a4 v2a5 hW
  have g0 := fun d os => cell_regrown v2a7 d os
  have g1 := fun d os => cell_regrown v2a8 d os
  have g2 := fun d os => cell_regrown v2a9 d os
  refine QTail.wp_region_below_tail 6 (by kernel_rfl) (by kernel_rfl) (by kernel_rfl) ?_
  simp only [List.take_succ_cons, List.take_zero, List.drop_succ_cons, List.drop_zero]
  repeat (quiet_step (first | exact Calls.regrown_of (add_c _ _ _ _ H.out.k1) | exact Calls.regrown_of (add_c _ _ _ _ H.out.k2) | exact Calls.regrown_of (sqrt_c _ _ _ H.out.rt)))
  refine wpQuiet_nil ?_
  intro W2 hw'
  have hB2 : Below W.heap.size W W2 := by
    obtain ⟨⟨dq, osq⟩, hw''⟩ := hw'
    rw [hw'']; exact below_regrown W dq osq
  clear hw' g0 g1 g2
  have c6 := after_call hB2 v2a6
  have f6 := after_frozen hB2 v2a6 v2g
  have hT : Below w.heap.size w W2 := v2k.trans (hB2.mono v2k.size)
  clear v2a6 v2a7 v2a8 v2a9 v2g v2k hB2 u0b v0b u1b v1b u2b v2b
  go_wp2
  refine bodyPost_ret (v := fl r) (by simp [results, Try.results24, go_sem, c6]) rfl ⟨rfl, ?_⟩
  repeat (first | exact hT | refine Below.setCell ?_ (by first | omega | (simp <;> omega)) _)
set_option maxRecDepth 100000 in
set_option maxHeartbeats 1000000 in
theorem zz_c (l1 a1 b1 l2 a2 b2 r d0 d1 d2 q0 q1 q2 s1 s2 : Nat) (w : World) (E : Eok l1 a1 b1 l2 a2 b2 r d0 d1 d2 q0 q1 q2 s1 s2) :
    Calls Try.prog 16 #[.float .f64 l1, .float .f64 a1, .float .f64 b1, .float .f64 l2, .float .f64 a2, .float .f64 b2] w fun e w' => e = .returned (.float .f64 r) ∧ Below w.heap.size w w' := by
  have H := Lib.hid E
  clear E
  go_enter Try.func16, Try.ntmps16
  go_wp2_with (first | (go_at_call 20; refine (new_c _ _).mono ?_; rintro e w' ⟨rfl, rfl⟩) | (go_at_call 24; (with_reducible refine (delta_c _ _ _ _ _ _ _ _ _ _ _ _ _ _ _ _ H.out).mono ?_); rintro e w' ⟨rfl, hb⟩; replace hb := (show Below w.heap.size w _ by repeat (first | exact Below.refl _ _ | refine Below.alloc ?_ (by first | omega | (simp <;> omega)) _)).trans (hb.mono (by first | omega | (simp <;> omega)))) | (go_at_call 21; refine (val_c _ _).mono ?_; rintro e w2 ⟨rfl, rfl⟩))
  go_ret
  exact ⟨rfl, hb.alloc hb.size _⟩
theorem abs_c (x : Nat) (w : World) : Calls Try.prog 15 #[.float .f64 x] w fun e w' => e = .returned (.float .f64 (absB x)) ∧ w = w' := by
  have hn := neg_fl
  go_enter Try.func15, Try.ntmps15
  go_wp2
  · go_ret
    exact ⟨ret_fl (by unfold absB ltB; rw [if_pos ‹_›]), rfl⟩
  · go_ret
    exact ⟨ret_fl (by unfold absB ltB; rw [if_neg (by simp [*])]), rfl⟩
theorem finT_c (x : Nat) (w : World) (hx : fin x) : Calls Try.prog 14 #[.float .f64 x] w fun e w' => e = .returned (.bool true) ∧ w = w' := by
  have k := fun w => run_float_arith (P := Try.prog) w .sub 22 .f64 _ _ _ (sub_self' hx)
  have e2 : (FloatKind.f64.format.order 0 0 == some .eq) = true := eqB_self zero_fin.1
  clear hx
  go_enter Try.func14, Try.ntmps14
  go_wp2
  go_ret
  exact ⟨rfl, rfl⟩
theorem sub_nonfin {x : Nat} (hx : ¬ fin x) : floatBits .sub .f64 x x = none := by
  by_cases hn : isNan x
  · obtain ⟨s, f, e⟩ := hn
    show ((F.read x).sum (F.read x).opposite).map F.write = none
    rw [e]; rfl
  · exact sub_inf hx hn
theorem finF_c (x : Nat) (w : World) (hx : ¬ fin x) : Calls Try.prog 14 #[.float .f64 x] w fun e w' => e = .returned (.bool false) ∧ Below w.heap.size w w' := by
  obtain ⟨r, hr, hnan, -⟩ := nan_run (P := Try.prog) w .sub 22 x x (by simp) (sub_nonfin hx)
  have e2 : (FloatKind.f64.format.order r 0 == some .eq) = false := nan_eqB hnan
  clear hx hnan
  go_enter Try.func14, Try.ntmps14
  go_wp2
  go_ret
  exact ⟨rfl, ⟨rfl, rfl, rfl, Nat.le_refl _, fun _ _ => rfl⟩⟩
set_option maxHeartbeats 1000000 in
theorem law_axis (x y c1 c2 : Nat) (k : Int) (w : World) (h : k < 0 ∨ 2 < k) : Calls Try.prog 6 #[.float .f64 x, .float .f64 y, .float .f64 c1, .float .f64 c2, .int .i64 k] w fun e w' => e = .returned (.bool true) ∧ Below w.heap.size w w' := by
  rcases h with h | h
  · go_enter Try.func6, Try.ntmps6
    go_wp2_with fail
    go_ret
    exact ⟨rfl, Below.refl _ _⟩
  · have h0 : ¬ k < 0 := by omega
    go_enter Try.func6, Try.ntmps6
    go_wp2_with fail
    go_ret
    exact ⟨rfl, Below.refl _ _⟩
set_option maxHeartbeats 1000000 in
theorem law_nf (x y c1 c2 : Nat) (k : Int) (w : World) (h0 : 0 ≤ k) (h1 : k ≤ 2) (h : ¬ (fin x ∧ fin y ∧ fin c1 ∧ fin c2)) : Calls Try.prog 6 #[.float .f64 x, .float .f64 y, .float .f64 c1, .float .f64 c2, .int .i64 k] w fun e w' => e = .returned (.bool true) ∧ Below w.heap.size w w' := by
  by_cases g1 : fin x
  · by_cases g2 : fin y
    · by_cases g3 : fin c1
      · have g4 : ¬ fin c2 := fun c => h ⟨g1, g2, g3, c⟩
        clear h
        go_enter Try.func6, Try.ntmps6
        go_wp2_with (first | (go_at_call 14; refine (finT_c _ _ ‹fin _›).mono ?_; rintro e w' ⟨rfl, rfl⟩) | (go_at_call 14; refine (finF_c _ _ ‹¬ fin _›).mono ?_; rintro e w' ⟨rfl, hb⟩))
        go_ret
        exact ⟨rfl, hb⟩
      · clear h
        go_enter Try.func6, Try.ntmps6
        go_wp2_with (first | (go_at_call 14; refine (finT_c _ _ ‹fin _›).mono ?_; rintro e w' ⟨rfl, rfl⟩) | (go_at_call 14; refine (finF_c _ _ ‹¬ fin _›).mono ?_; rintro e w' ⟨rfl, hb⟩))
        go_ret
        exact ⟨rfl, hb⟩
    · clear h
      go_enter Try.func6, Try.ntmps6
      go_wp2_with (first | (go_at_call 14; refine (finT_c _ _ ‹fin _›).mono ?_; rintro e w' ⟨rfl, rfl⟩) | (go_at_call 14; refine (finF_c _ _ ‹¬ fin _›).mono ?_; rintro e w' ⟨rfl, hb⟩))
      go_ret
      exact ⟨rfl, hb⟩
  · clear h
    go_enter Try.func6, Try.ntmps6
    go_wp2_with (first | (go_at_call 14; refine (finT_c _ _ ‹fin _›).mono ?_; rintro e w' ⟨rfl, rfl⟩) | (go_at_call 14; refine (finF_c _ _ ‹¬ fin _›).mono ?_; rintro e w' ⟨rfl, hb⟩))
    go_ret
    exact ⟨rfl, hb⟩
set_option maxRecDepth 100000 in
set_option maxHeartbeats 1000000 in
theorem law_out (x y c1 c2 d : Nat) (k : Int) (w : World) (h0 : 0 ≤ k) (h1 : k ≤ 2) (g1 : fin x) (g2 : fin y) (g3 : fin c1) (g4 : fin c2) (hd : floatBits .sub .f64 x y = some d)
    (n0 : eqB (absB d) 0 = false) (n1 : (geB (absB d) 2355382605114769408 && leB (absB d) 6858982232485265408) = false) : Calls Try.prog 6 #[.float .f64 x, .float .f64 y, .float .f64 c1, .float .f64 c2, .int .i64 k] w fun e w' => e = .returned (.bool true) ∧ Below w.heap.size w w' := by
  have k1 := fun w => run_float_arith (P := Try.prog) w .sub 22 .f64 _ _ _ hd
  have e0 : (FloatKind.f64.format.order (absB d) 0 != some .eq) = true := by
    have : (FloatKind.f64.format.order (absB d) 0 == some .eq) = false := n0
    simp [bne, this]
  clear hd n0
  rcases b2 (geB (absB d) 2355382605114769408) with c | c
  · have c' : (FloatKind.f64.format.order (absB d) 2355382605114769408 == some .gt || FloatKind.f64.format.order (absB d) 2355382605114769408 == some .eq) = true := c
    have e' : (FloatKind.f64.format.order (absB d) 6858982232485265408 == some .lt || FloatKind.f64.format.order (absB d) 6858982232485265408 == some .eq) = false := by
      rw [c, Bool.true_and] at n1; exact n1
    clear c n1
    go_enter Try.func6, Try.ntmps6
    go_wp2_with (first | (go_at_call 14; refine (finT_c _ _ ‹fin _›).mono ?_; rintro e w' ⟨rfl, rfl⟩) | (go_at_call 15; refine (abs_c _ _).mono ?_; rintro e w' ⟨rfl, rfl⟩))
    go_ret
    exact ⟨rfl, Below.refl _ _⟩
  · have c' : (FloatKind.f64.format.order (absB d) 2355382605114769408 == some .gt || FloatKind.f64.format.order (absB d) 2355382605114769408 == some .eq) = false := c
    clear c n1
    go_enter Try.func6, Try.ntmps6
    go_wp2_with (first | (go_at_call 14; refine (finT_c _ _ ‹fin _›).mono ?_; rintro e w' ⟨rfl, rfl⟩) | (go_at_call 15; refine (abs_c _ _).mono ?_; rintro e w' ⟨rfl, rfl⟩))
    go_ret
    exact ⟨rfl, Below.refl _ _⟩
/-- what holds of d when the law goes on to the code -/
def Rng (d : Nat) : Prop := eqB (absB d) 0 = true ∨ (eqB (absB d) 0 = false ∧ (geB (absB d) 2355382605114769408 && leB (absB d) 6858982232485265408) = true)
set_option maxRecDepth 100000 in
set_option maxHeartbeats 1000000 in
theorem law_in0 (x y c1 c2 d r d0 d1 d2 q0 q1 q2 s1 s2 : Nat) (w : World) (g1 : fin x) (g2 : fin y) (g3 : fin c1) (g4 : fin c2) (hd : floatBits .sub .f64 x y = some d)
    (R : Rng d) (E : Eok x c1 c2 y c1 c2 r d0 d1 d2 q0 q1 q2 s1 s2) (he : eqB r (absB d) = true) : Calls Try.prog 6 #[.float .f64 x, .float .f64 y, .float .f64 c1, .float .f64 c2, .int .i64 0] w fun e w' => e = .returned (.bool true) ∧ Below w.heap.size w w' := by
  have k1 := fun w => run_float_arith (P := Try.prog) w .sub 22 .f64 _ _ _ hd
  have he' : (FloatKind.f64.format.order r (absB d) == some .eq) = true := he
  have H := Lib.hid E
  clear hd he E
  rcases R with n0 | ⟨n0, n1⟩
  · have e0 : (FloatKind.f64.format.order (absB d) 0 != some .eq) = false := by
      have : (FloatKind.f64.format.order (absB d) 0 == some .eq) = true := n0
      simp [bne, this]
    clear n0
    go_enter Try.func6, Try.ntmps6
    go_wp2_with (first | (go_at_call 14; refine (finT_c _ _ ‹fin _›).mono ?_; rintro e w' ⟨rfl, rfl⟩) | (go_at_call 15; refine (abs_c _ _).mono ?_; rintro e w' ⟨rfl, rfl⟩) | (go_at_call 16; (with_reducible refine (zz_c _ _ _ _ _ _ _ _ _ _ _ _ _ _ _ _ H.out).mono ?_); rintro e w' ⟨rfl, hb⟩))
    go_ret
    exact ⟨rfl, hb⟩
  · have e0 : (FloatKind.f64.format.order (absB d) 0 != some .eq) = true := by
      have : (FloatKind.f64.format.order (absB d) 0 == some .eq) = false := n0
      simp [bne, this]
    rw [Bool.and_eq_true] at n1
    have c' : (FloatKind.f64.format.order (absB d) 2355382605114769408 == some .gt || FloatKind.f64.format.order (absB d) 2355382605114769408 == some .eq) = true := n1.1
    have e' : (FloatKind.f64.format.order (absB d) 6858982232485265408 == some .lt || FloatKind.f64.format.order (absB d) 6858982232485265408 == some .eq) = true := n1.2
    clear n0 n1
    go_enter Try.func6, Try.ntmps6
    go_wp2_with (first | (go_at_call 14; refine (finT_c _ _ ‹fin _›).mono ?_; rintro e w' ⟨rfl, rfl⟩) | (go_at_call 15; refine (abs_c _ _).mono ?_; rintro e w' ⟨rfl, rfl⟩) | (go_at_call 16; (with_reducible refine (zz_c _ _ _ _ _ _ _ _ _ _ _ _ _ _ _ _ H.out).mono ?_); rintro e w' ⟨rfl, hb⟩))
    go_ret
    exact ⟨rfl, hb⟩
set_option maxRecDepth 100000 in
set_option maxHeartbeats 1000000 in
theorem law_in1 (x y c1 c2 d r d0 d1 d2 q0 q1 q2 s1 s2 : Nat) (w : World) (g1 : fin x) (g2 : fin y) (g3 : fin c1) (g4 : fin c2) (hd : floatBits .sub .f64 x y = some d)
    (R : Rng d) (E : Eok c1 x c2 c1 y c2 r d0 d1 d2 q0 q1 q2 s1 s2) (he : eqB r (absB d) = true) : Calls Try.prog 6 #[.float .f64 x, .float .f64 y, .float .f64 c1, .float .f64 c2, .int .i64 1] w fun e w' => e = .returned (.bool true) ∧ Below w.heap.size w w' := by
  have k1 := fun w => run_float_arith (P := Try.prog) w .sub 22 .f64 _ _ _ hd
  have he' : (FloatKind.f64.format.order r (absB d) == some .eq) = true := he
  have H := Lib.hid E
  clear hd he E
  rcases R with n0 | ⟨n0, n1⟩
  · have e0 : (FloatKind.f64.format.order (absB d) 0 != some .eq) = false := by
      have : (FloatKind.f64.format.order (absB d) 0 == some .eq) = true := n0
      simp [bne, this]
    clear n0
    go_enter Try.func6, Try.ntmps6
    go_wp2_with (first | (go_at_call 14; refine (finT_c _ _ ‹fin _›).mono ?_; rintro e w' ⟨rfl, rfl⟩) | (go_at_call 15; refine (abs_c _ _).mono ?_; rintro e w' ⟨rfl, rfl⟩) | (go_at_call 16; (with_reducible refine (zz_c _ _ _ _ _ _ _ _ _ _ _ _ _ _ _ _ H.out).mono ?_); rintro e w' ⟨rfl, hb⟩))
    go_ret
    exact ⟨rfl, hb⟩
  · have e0 : (FloatKind.f64.format.order (absB d) 0 != some .eq) = true := by
      have : (FloatKind.f64.format.order (absB d) 0 == some .eq) = false := n0
      simp [bne, this]
    rw [Bool.and_eq_true] at n1
    have c' : (FloatKind.f64.format.order (absB d) 2355382605114769408 == some .gt || FloatKind.f64.format.order (absB d) 2355382605114769408 == some .eq) = true := n1.1
    have e' : (FloatKind.f64.format.order (absB d) 6858982232485265408 == some .lt || FloatKind.f64.format.order (absB d) 6858982232485265408 == some .eq) = true := n1.2
    clear n0 n1
    go_enter Try.func6, Try.ntmps6
    go_wp2_with (first | (go_at_call 14; refine (finT_c _ _ ‹fin _›).mono ?_; rintro e w' ⟨rfl, rfl⟩) | (go_at_call 15; refine (abs_c _ _).mono ?_; rintro e w' ⟨rfl, rfl⟩) | (go_at_call 16; (with_reducible refine (zz_c _ _ _ _ _ _ _ _ _ _ _ _ _ _ _ _ H.out).mono ?_); rintro e w' ⟨rfl, hb⟩))
    go_ret
    exact ⟨rfl, hb⟩
set_option maxRecDepth 100000 in
set_option maxHeartbeats 1000000 in
theorem law_in2 (x y c1 c2 d r d0 d1 d2 q0 q1 q2 s1 s2 : Nat) (w : World) (g1 : fin x) (g2 : fin y) (g3 : fin c1) (g4 : fin c2) (hd : floatBits .sub .f64 x y = some d)
    (R : Rng d) (E : Eok c1 c2 x c1 c2 y r d0 d1 d2 q0 q1 q2 s1 s2) (he : eqB r (absB d) = true) : Calls Try.prog 6 #[.float .f64 x, .float .f64 y, .float .f64 c1, .float .f64 c2, .int .i64 2] w fun e w' => e = .returned (.bool true) ∧ Below w.heap.size w w' := by
  have k1 := fun w => run_float_arith (P := Try.prog) w .sub 22 .f64 _ _ _ hd
  have he' : (FloatKind.f64.format.order r (absB d) == some .eq) = true := he
  have H := Lib.hid E
  clear hd he E
  rcases R with n0 | ⟨n0, n1⟩
  · have e0 : (FloatKind.f64.format.order (absB d) 0 != some .eq) = false := by
      have : (FloatKind.f64.format.order (absB d) 0 == some .eq) = true := n0
      simp [bne, this]
    clear n0
    go_enter Try.func6, Try.ntmps6
    go_wp2_with (first | (go_at_call 14; refine (finT_c _ _ ‹fin _›).mono ?_; rintro e w' ⟨rfl, rfl⟩) | (go_at_call 15; refine (abs_c _ _).mono ?_; rintro e w' ⟨rfl, rfl⟩) | (go_at_call 16; (with_reducible refine (zz_c _ _ _ _ _ _ _ _ _ _ _ _ _ _ _ _ H.out).mono ?_); rintro e w' ⟨rfl, hb⟩))
    go_ret
    exact ⟨rfl, hb⟩
  · have e0 : (FloatKind.f64.format.order (absB d) 0 != some .eq) = true := by
      have : (FloatKind.f64.format.order (absB d) 0 == some .eq) = false := n0
      simp [bne, this]
    rw [Bool.and_eq_true] at n1
    have c' : (FloatKind.f64.format.order (absB d) 2355382605114769408 == some .gt || FloatKind.f64.format.order (absB d) 2355382605114769408 == some .eq) = true := n1.1
    have e' : (FloatKind.f64.format.order (absB d) 6858982232485265408 == some .lt || FloatKind.f64.format.order (absB d) 6858982232485265408 == some .eq) = true := n1.2
    clear n0 n1
    go_enter Try.func6, Try.ntmps6
    go_wp2_with (first | (go_at_call 14; refine (finT_c _ _ ‹fin _›).mono ?_; rintro e w' ⟨rfl, rfl⟩) | (go_at_call 15; refine (abs_c _ _).mono ?_; rintro e w' ⟨rfl, rfl⟩) | (go_at_call 16; (with_reducible refine (zz_c _ _ _ _ _ _ _ _ _ _ _ _ _ _ _ _ H.out).mono ?_); rintro e w' ⟨rfl, hb⟩))
    go_ret
    exact ⟨rfl, hb⟩
theorem negB_read {x : Nat} (hw : x < 2 ^ 64) : F.read (negB x) = (F.read x).opposite := by
  have e : negB x = x ^^^ 2 ^ 63 := rfl
  rw [e]
  have hd : (x ^^^ 2 ^ 63) % 2 ^ 63 = x % 2 ^ 63 := by
    rw [Nat.xor_mod_two_pow]; simp
  have hq : (x ^^^ 2 ^ 63) / 2 ^ 63 % 2 = (x / 2 ^ 63 + 1) % 2 := by
    have h1 : (x ^^^ 2 ^ 63) / 2 ^ 63 = x / 2 ^ 63 ^^^ 1 := by
      rw [← Nat.shiftRight_eq_div_pow, Nat.shiftRight_xor_distrib, Nat.shiftRight_eq_div_pow]
      rfl
    rw [h1]
    have h2 : x / 2 ^ 63 < 2 := by omega
    have : x / 2 ^ 63 = 0 ∨ x / 2 ^ 63 = 1 := by omega
    rcases this with h | h <;> rw [h] <;> rfl
  have hs : ((x ^^^ 2 ^ 63) / 2 ^ 63 % 2 == 1) = !(x / 2 ^ 63 % 2 == 1) := by
    rw [hq]
    have : x / 2 ^ 63 = 0 ∨ x / 2 ^ 63 = 1 := by omega
    rcases this with h | h <;> rw [h] <;> rfl
  unfold Format.read
  dsimp only
  rw [show F.signWeight = 2 ^ 63 from rfl, hd, hs]
  split
  · rfl
  · split
    · rfl
    · split <;> rfl
theorem fin_absB {d : Nat} (hw : d < 2 ^ 64) (h : fin (absB d)) : fin d := by
  unfold absB at h
  by_cases c : ltB d 0 = true
  · rw [if_pos c] at h
    unfold fin at *
    rw [negB_read hw] at h
    cases e : F.read d <;> rw [e] at h <;> first | trivial | exact h.elim
  · rw [if_neg c] at h; exact h
theorem fin_eqB {y : Nat} (h : eqB y 0 = true) : fin y := by
  have hz : F.read 0 = .number false 0 (-1074) := by decide
  unfold eqB at h
  change (F.order y 0 == some .eq) = true at h
  unfold Format.order at h
  rw [hz] at h
  unfold fin
  cases e : F.read y with
  | number s m p => trivial
  | infinity s => rw [e] at h; cases s <;> simp [Datum.order] at h
  | nan s f => rw [e] at h; simp [Datum.order] at h
/-- a sum that the format has -/
theorem add_exact (a b c : Nat) (fa : fin a) (fb : fin b) (fc : fin c) (h : val a + val b = val c) (hc : Abs (val c) (two 1020)) :
    ∃ r, floatBits .add .f64 a b = some r ∧ fin r ∧ val r = val c := by
  obtain ⟨d, e1, e2, e3⟩ := sum_val _ _ fa fb
  have e4 : dval d = val c := by rw [← h]; exact e3
  obtain ⟨s', m, q, ec, hm, hq1, hq2, hsub⟩ := fin_num fc
  have hcv : val c = sg s' * (m : Rat) * two q := by unfold val; rw [ec]; rfl
  have tq := two_pos q
  have hmn : (0 : Rat) ≤ (m : Rat) := by exact_mod_cast Nat.zero_le m
  have hmq := Rat.mul_nonneg hmn (Rat.le_of_lt tq)
  have hq3 : q ≤ 970 := by
    apply Int.not_lt.1
    intro cq
    have hq : q = 971 := by omega
    have hm52 : 2 ^ 52 ≤ m := by
      apply Nat.le_of_not_lt; intro c2; have := hsub c2; omega
    have a1 : (4503599627370496 : Rat) ≤ (m : Rat) := by exact_mod_cast hm52
    have a2 := Rat.mul_le_mul_of_nonneg_right a1 (Rat.le_of_lt tq)
    have a3 : two 1020 < 4503599627370496 * two 971 := by unfold two; decide +kernel
    rw [hq] at a2 hcv
    unfold Abs at hc
    rw [hcv] at hc
    cases s' <;> simp only [sg] at hc <;> grind
  cases d with
  | infinity s => exact e2.elim
  | nan s f => exact e2.elim
  | number s mag place =>
    have hd : sg s * (mag : Rat) * two place = sg s' * (m : Rat) * two q := by rw [← hcv, ← e4]; rfl
    have tp := two_pos place
    have hgn : (0 : Rat) ≤ (mag : Rat) := by exact_mod_cast Nat.zero_le mag
    have hgp := Rat.mul_nonneg hgn (Rat.le_of_lt tp)
    have habs : (mag : Rat) * two place = (m : Rat) * two q := by
      cases s <;> cases s' <;> simp only [sg] at hd <;> grind
    obtain ⟨f1, f2⟩ := nearest_exact s mag place m q hm hq1 hq3 habs
    refine ⟨F.nearest s mag place, ?_, f1, ?_⟩
    · show ((F.read a).sum (F.read b)).map F.write = _
      rw [e1]; rfl
    · rw [f2, ← e4]; rfl
theorem sqrt_zero {x : Nat} (fx : fin x) (h : val x = 0) : ∃ r, F.sqrt x = some r ∧ fin r ∧ val r = 0 := by
  obtain ⟨s, m, q, e, -⟩ := fin_num fx
  have hv : val x = sg s * (m : Rat) * two q := by unfold val; rw [e]; rfl
  have hm : m = 0 := by
    apply Nat.eq_zero_of_not_pos
    intro c
    have c2 : (0 : Rat) < (m : Rat) := by exact_mod_cast c
    have := Rat.mul_pos c2 (two_pos q)
    rw [hv] at h
    cases s <;> simp only [sg] at h <;> grind
  subst hm
  refine ⟨F.word s 0, ?_, word_zero s⟩
  show ((F.read x).root 54).map F.write = _
  rw [e]
  show some (F.nearest s 0 q) = _
  unfold Format.nearest; rw [if_pos rfl]
theorem mul00 : floatBits .mul .f64 0 0 = some 0 := by decide
theorem add00 : floatBits .add .f64 0 0 = some 0 := by decide
theorem klo : fin 2355382605114769408 ∧ val 2355382605114769408 = two (-500) := ⟨fin_of (by decide +kernel), by unfold two; decide +kernel⟩
theorem khi : fin 6858982232485265408 ∧ val 6858982232485265408 = two 500 := ⟨fin_of (by decide +kernel), by unfold two; decide +kernel⟩
/-- the square of d, and the root of any word of that value -/
theorem core (d : Nat) (hw : d < 2 ^ 64) (R : Rng d) : ∃ p, floatBits .mul .f64 d d = some p ∧ fin p ∧ Abs (val p) (two 1020) ∧ (∀ x, fin x → val x = val p → ∃ r, F.sqrt x = some r ∧ eqB r (absB d) = true) := by
  rcases R with h | ⟨h0, h1⟩
  · have fa := fin_eqB h
    have fd := fin_absB hw fa
    have z := (eqB_iff fa zero_fin.1).1 h
    rw [zero_fin.2] at z
    obtain ⟨ga, g0, g1, g2⟩ := absB_val hw fd
    have vd : val d = 0 := by rcases g2 with g | g <;> grind
    have hp : 0 < two 1020 := two_pos _
    obtain ⟨p, fp, gp, -⟩ := mul_near d d fd fd 0 (by rw [vd]; simp) (by rw [vd]; simp) (two_pos _)
    have vp : val p = 0 := by
      obtain ⟨s, m, q, e, hm, -⟩ := fin_num fd
      have hv : val d = sg s * (m : Rat) * two q := by unfold val; rw [e]; rfl
      have hm : m = 0 := by
        apply Nat.eq_zero_of_not_pos
        intro c
        have c2 : (0 : Rat) < (m : Rat) := by exact_mod_cast c
        have := Rat.mul_pos c2 (two_pos q)
        rw [hv] at vd
        cases s <;> simp only [sg] at vd <;> grind
      subst hm
      have : floatBits .mul .f64 d d = some (F.word (s ^^ s) 0) := by
        show ((F.read d).product (F.read d)).map F.write = _
        rw [e]
        show some (F.nearest (s ^^ s) (0 * 0) (q + q)) = _
        unfold Format.nearest; rw [if_pos (by simp)]
      rw [this] at fp
      cases fp
      exact (word_zero _).2
    refine ⟨p, fp, gp, ?_, ?_⟩
    · rw [vp]; unfold Abs; constructor <;> grind
    · intro x fx hx
      obtain ⟨r, h1, h2, h3⟩ := sqrt_zero fx (by rw [hx, vp])
      exact ⟨r, h1, (eqB_iff h2 fa).2 (by rw [h3, z])⟩
  · rw [Bool.and_eq_true] at h1
    have fa := fin_of_between klo.1 khi.1 h1.1 h1.2
    have fd := fin_absB hw fa
    have b1 := (geB_iff fa klo.1).1 h1.1
    have b2 := (leB_iff fa khi.1).1 h1.2
    rw [klo.2] at b1
    rw [khi.2] at b2
    obtain ⟨p, fp, gp, hp⟩ := sqrt_sq d hw fd b1 b2
    refine ⟨p, fp, gp, ?_, ?_⟩
    · obtain ⟨ga, g0, g1, g2⟩ := absB_val hw fd
      have a1 := abs_mul g1 g1
      have a2 := Rat.mul_le_mul_of_nonneg_right b2 g0
      have a3 := Rat.mul_le_mul_of_nonneg_left b2 (Rat.le_of_lt (two_pos 500))
      rw [← two_add] at a3
      have tt : 2 * two (500 + 500) + 1 < two 1020 := by unfold two; decide +kernel
      have t2 : two 1020 < two 1023 := by unfold two; decide +kernel
      unfold Abs at a1
      obtain ⟨p', fp', gp', np'⟩ := mul_near d d fd fd (two (500 + 500)) (by grind) (by grind) (by grind)
      rw [fp] at fp'
      cases fp'
      have e1 : eta ≤ 1 / 100 := by have := eta_small; grind
      unfold Near at np'
      rw [uu_val] at np'
      unfold Abs
      constructor <;> grind
    · intro x fx hx
      obtain ⟨r, h1, h2, h3⟩ := hp x fx hx
      exact ⟨r, h1, (eqB_iff h2 fa).2 h3⟩
theorem plain (x y c1 c2 d : Nat) (wx : x < 2 ^ 64) (g1 : fin x) (g2 : fin y) (g3 : fin c1) (g4 : fin c2) (hd : floatBits .sub .f64 x y = some d) (R : Rng d) :
    (∃ r d0 d1 d2 q0 q1 q2 s1 s2, Eok x c1 c2 y c1 c2 r d0 d1 d2 q0 q1 q2 s1 s2 ∧ eqB r (absB d) = true) ∧
    (∃ r d0 d1 d2 q0 q1 q2 s1 s2, Eok c1 x c2 c1 y c2 r d0 d1 d2 q0 q1 q2 s1 s2 ∧ eqB r (absB d) = true) ∧
    (∃ r d0 d1 d2 q0 q1 q2 s1 s2, Eok c1 c2 x c1 c2 y r d0 d1 d2 q0 q1 q2 s1 s2 ∧ eqB r (absB d) = true) := by
  have hw := bits_lt hd
  obtain ⟨p, fp, gp, bp, hp⟩ := core d hw R
  have z1 := sub_self' g3
  have z2 := sub_self' g4
  have zf := zero_fin.1
  have zv := zero_fin.2
  refine ⟨?_, ?_, ?_⟩
  · obtain ⟨s1, a1, a2, a3⟩ := add_exact p 0 p gp zf gp (by rw [zv]; grind) bp
    obtain ⟨s2, b1, b2, b3⟩ := add_exact s1 0 p a2 zf gp (by rw [zv, a3]; grind) bp
    obtain ⟨r, h1, h2⟩ := hp s2 b2 b3
    exact ⟨r, d, 0, 0, p, 0, 0, s1, s2, ⟨hd, z1, z2, fp, mul00, mul00, a1, b1, h1⟩, h2⟩
  · obtain ⟨s1, a1, a2, a3⟩ := add_exact 0 p p zf gp gp (by rw [zv]; grind) bp
    obtain ⟨s2, b1, b2, b3⟩ := add_exact s1 0 p a2 zf gp (by rw [zv, a3]; grind) bp
    obtain ⟨r, h1, h2⟩ := hp s2 b2 b3
    exact ⟨r, 0, d, 0, 0, p, 0, s1, s2, ⟨z1, hd, z2, mul00, fp, mul00, a1, b1, h1⟩, h2⟩
  · obtain ⟨s2, b1, b2, b3⟩ := add_exact 0 p p zf gp gp (by rw [zv]; grind) bp
    obtain ⟨r, h1, h2⟩ := hp s2 b2 b3
    exact ⟨r, 0, 0, d, 0, 0, p, 0, s2, ⟨z1, z2, hd, mul00, mul00, fp, add00, b1, h1⟩, h2⟩
theorem sub_some (x y : Nat) (g1 : fin x) (g2 : fin y) : ∃ d, floatBits .sub .f64 x y = some d := by
  obtain ⟨o1, o2⟩ := opp_val _ g2
  obtain ⟨d, e1, e2, e3⟩ := sum_val _ _ g1 o1
  refine ⟨F.write d, ?_⟩
  show ((F.read x).sum (F.read y).opposite).map F.write = _
  rw [e1]; rfl
theorem walk (a0 : Nat) (a1 : Nat) (a2 : Nat) (a3 : Nat) (a4 : Int) (w0 : (Lit.float .f64 a0).wf = true) (w1 : (Lit.float .f64 a1).wf = true) (w2 : (Lit.float .f64 a2).wf = true) (w3 : (Lit.float .f64 a3).wf = true) (w4 : (Lit.int .i64 a4).wf = true) (w : World) :
    Calls Try.prog 6 #[.float .f64 a0, .float .f64 a1, .float .f64 a2, .float .f64 a3, .int .i64 a4] w fun e w' => e = .returned (.bool true) ∧ Below w.heap.size w w' := by
  by_cases hk : 0 ≤ a4 ∧ a4 ≤ 2
  · by_cases hf : fin a0 ∧ fin a1 ∧ fin a2 ∧ fin a3
    · obtain ⟨g1, g2, g3, g4⟩ := hf
      obtain ⟨d, hd⟩ := sub_some a0 a1 g1 g2
      by_cases R : Rng d
      · obtain ⟨⟨r, d0, d1, d2, q0, q1, q2, s1, s2, E, e⟩, ⟨r', d0', d1', d2', q0', q1', q2', s1', s2', E', e'⟩, ⟨r'', d0'', d1'', d2'', q0'', q1'', q2'', s1'', s2'', E'', e''⟩⟩ := plain a0 a1 a2 a3 d (wf_lt w0) g1 g2 g3 g4 hd R
        have : a4 = 0 ∨ a4 = 1 ∨ a4 = 2 := by omega
        rcases this with rfl | rfl | rfl
        · exact law_in0 _ _ _ _ d r d0 d1 d2 q0 q1 q2 s1 s2 w g1 g2 g3 g4 hd R E e
        · exact law_in1 _ _ _ _ d r' d0' d1' d2' q0' q1' q2' s1' s2' w g1 g2 g3 g4 hd R E' e'
        · exact law_in2 _ _ _ _ d r'' d0'' d1'' d2'' q0'' q1'' q2'' s1'' s2'' w g1 g2 g3 g4 hd R E'' e''
      · have n0 : eqB (absB d) 0 = false := by
          cases h : eqB (absB d) 0 with
          | true => exact (R (Or.inl h)).elim
          | false => rfl
        have n1 : (geB (absB d) 2355382605114769408 && leB (absB d) 6858982232485265408) = false := by
          cases h : (geB (absB d) 2355382605114769408 && leB (absB d) 6858982232485265408) with
          | true => exact (R (Or.inr ⟨n0, h⟩)).elim
          | false => rfl
        exact law_out a0 a1 a2 a3 d a4 w hk.1 hk.2 g1 g2 g3 g4 hd n0 n1
    · exact law_nf a0 a1 a2 a3 a4 w hk.1 hk.2 hf
  · exact law_axis a0 a1 a2 a3 a4 w (by omega)
-- theorem walk (a0 : Nat) (a1 : Nat) (a2 : Nat) (a3 : Nat) (a4 : Int) (w0 : (Lit.float .f64 a0).wf = true) (w1 : (Lit.float .f64 a1).wf = true) (w2 : (Lit.float .f64 a2).wf = true) (w3 : (Lit.float .f64 a3).wf = true) (w4 : (Lit.int .i64 a4).wf = true) (w : World) :
--    Calls Try.prog 6 #[.float .f64 a0, .float .f64 a1, .float .f64 a2, .float .f64 a3, .int .i64 a4] w fun e w' => e = .returned (.bool true) ∧ Below w.heap.size w w'
theorem own : ownKnob Try.prog.godebug = none := by kernel_rfl
set_option maxRecDepth 100000 in
theorem lifted (os : Os) (started : os.Started) (H : Type) (enc : TypeId × Value → H) :
    ReturnsInHanded {} Try.checked os 6 .any (Rows.fnDeltaEOKSingleAxisIsAbsoluteDifferenceSpec.pre6 enc Try.prog Try.f6 Rows.fnDeltaEOKSingleAxisIsAbsoluteDifferenceRow.domain false) (Rows.fnDeltaEOKSingleAxisIsAbsoluteDifferenceSpec.post enc Try.prog Try.f6 false true false false) := by
  refine returnsInHanded_of_change (C := Try.checked) own started (by kernel_rfl) Try.func6
    (ChangeSpec.witness6 (enc := enc) (C := Try.checked) false ⟨#[], #[.float .f64 0, .float .f64 0, .float .f64 0, .float .f64 0, .int .i64 0], []⟩ 8 (by kernel_rfl) (by kernel_rfl) (by kernel_rfl) (by kernel_rfl)) ?_
  intro W base args ds gs before hval0 hW hcnd _
  have hval : ∀ (j : Nat) t v, Try.f6.params[j]? = some t → args[j]? = some v → Value.okWide Try.prog W .any base t v := hval0
  have hW' := hW
  obtain ⟨p, q, hA0, hV, rfl, hfz, hnd⟩ := hW
  have hA : DataW.TrodAll enc Try.prog W 0 (fun _ => true) true Try.f6.params.toList args.toList ds p := hA0
  rw [Try.params6] at hA hval
  obtain ⟨v0, vs0, d0, ds0, p0, q0, hargs, rfl, rfl, h0, r0⟩ := trodAll_cons hA
  obtain ⟨v1, vs1, d1, ds1, p1, q1, rfl, rfl, rfl, h1, r1⟩ := trodAll_cons r0
  obtain ⟨v2, vs2, d2, ds2, p2, q2, rfl, rfl, rfl, h2, r2⟩ := trodAll_cons r1
  obtain ⟨v3, vs3, d3, ds3, p3, q3, rfl, rfl, rfl, h3, r3⟩ := trodAll_cons r2
  obtain ⟨v4, vs4, d4, ds4, p4, q4, rfl, rfl, rfl, h4, r4⟩ := trodAll_cons r3
  obtain ⟨rfl, rfl, rfl⟩ := trodAll_nil r4
  obtain rfl : args = #[v0, v1, v2, v3, v4] := by cases args; simp_all
  obtain ⟨rfl, rfl⟩ := trodVars_none hV
  obtain ⟨a0, rfl, rfl, rfl, w0⟩ := open_float Try.underlying22 (hval 0 22 v0 rfl rfl) h0
  obtain ⟨a1, rfl, rfl, rfl, w1⟩ := open_float Try.underlying22 (hval 1 22 v1 rfl rfl) h1
  obtain ⟨a2, rfl, rfl, rfl, w2⟩ := open_float Try.underlying22 (hval 2 22 v2 rfl rfl) h2
  obtain ⟨a3, rfl, rfl, rfl, w3⟩ := open_float Try.underlying22 (hval 3 22 v3 rfl rfl) h3
  obtain ⟨a4, rfl, rfl, rfl, w4⟩ := open_int Try.underlying3 (hval 4 3 v4 rfl rfl) h4
  clear hA0 hval0
  simp only [List.append_nil] at hW'
  refine (walk a0 a1 a2 a3 a4 w0 w1 w2 w3 w4 W).mono fun e W' ⟨he, bel⟩ => ?_
  subst he
  exact ⟨_, rfl, _, _, _, [], [], [], hW', trodAll_mk1 (shut_bool Try.underlying4 _), (trodAll_cons_mk (shut_float Try.underlying22 w0) (trodAll_cons_mk (shut_float Try.underlying22 w1) (trodAll_cons_mk (shut_float Try.underlying22 w2) (trodAll_cons_mk (shut_float Try.underlying22 w3) (trodAll_cons_mk (shut_int Try.underlying3 w4) trodAll_mk0))))), rfl, bel.frame _, fun h => by cases h⟩

theorem over : Rows.fnDeltaEOKSingleAxisIsAbsoluteDifferenceRow.holds Try.pinned (OpenSpec.ofChange Rows.fnDeltaEOKSingleAxisIsAbsoluteDifferenceSpec) :=
  OpenClaim.holds_of_wide 6 Try.f6 rfl rfl rfl rfl rfl rfl rfl ⟨rfl, rfl, rfl, rfl, rfl⟩ rfl rfl rfl rfl rfl (by kernel_rfl) Try.func6 (by kernel_rfl)
    (of_decide_eq_true (by kernel_rfl)) (by unfold Func.isWrapper; first | (rw [if_pos (by decide +kernel)]; kernel_rfl) | (rw [if_neg (by decide +kernel)]; exact ⟨rfl, rfl⟩))
    (fun os started H enc _ => lifted os started H enc)

theorem proved : Rows.FnDeltaEOKSingleAxisIsAbsoluteDifferenceSaid :=
  over
#print axioms proved
end Go.Proofs.Ytanaamlkiackbaa.fnDeltaEOKSingleAxisIsAbsoluteDifference
