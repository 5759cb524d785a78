/- Words that are each other's negative: products and sums of them are each other's negatives, or no numbers both. -/
import Derived.Test.YtanaamlkiackbaaFl2
import Derived.Test.YtanaamlkiackbaaRel
set_option linter.unusedSimpArgs false
set_option linter.unusedVariables false
namespace Go.Proofs.Ytanaamlkiackbaa
open Flt Ieee
namespace Od
def ND : Datum → Datum → Prop
  | .nan .., .nan .. => True
  | .infinity s, .infinity t => t = !s
  | .number s m p, .number t n q => m = n ∧ p = q ∧ (m ≠ 0 → t = !s)
  | _, _ => False
def NR (x y : Nat) : Prop := ND (F.read x) (F.read y)
theorem neg_read {x : Nat} (hw : x < 2 ^ 64) : F.read (negB x) = (F.read x).opposite := by
  have e : negB x = x ^^^ 2 ^ 63 := rfl
  rw [e]
  have hd : (x ^^^ 2 ^ 63) % 2 ^ 63 = x % 2 ^ 63 := by
    rw [Nat.xor_mod_two_pow]; simp
  have hq : (x ^^^ 2 ^ 63) / 2 ^ 63 % 2 = (x / 2 ^ 63 + 1) % 2 := by
    have h1 : (x ^^^ 2 ^ 63) / 2 ^ 63 = x / 2 ^ 63 ^^^ 1 := by
      rw [← Nat.shiftRight_eq_div_pow, Nat.shiftRight_xor_distrib, Nat.shiftRight_eq_div_pow]
      rfl
    rw [h1]
    have : x / 2 ^ 63 = 0 ∨ x / 2 ^ 63 = 1 := by omega
    rcases this with h | h <;> rw [h] <;> rfl
  have hs : ((x ^^^ 2 ^ 63) / 2 ^ 63 % 2 == 1) = !(x / 2 ^ 63 % 2 == 1) := by
    rw [hq]
    have : x / 2 ^ 63 = 0 ∨ x / 2 ^ 63 = 1 := by omega
    rcases this with h | h <;> rw [h] <;> rfl
  unfold Format.read
  dsimp only
  rw [show F.signWeight = 2 ^ 63 from rfl, hd, hs]
  split
  · rfl
  · split
    · rfl
    · split <;> rfl
theorem nr_neg {x : Nat} (hw : x < 2 ^ 64) : NR x (negB x) := by
  unfold NR
  rw [neg_read hw]
  cases F.read x <;> simp [ND, Datum.opposite]
theorem nd_same_left : ∀ {a b : Datum}, ND a b → (∃ s t, a = .nan s t) → ∃ s t, b = .nan s t
  | .nan .., .nan s t, _, _ => ⟨s, t, rfl⟩
  | .nan .., .number .., h, _ => h.elim
  | .nan .., .infinity .., h, _ => h.elim
  | .number .., _, _, ⟨_, _, h⟩ => by cases h
  | .infinity .., _, _, ⟨_, _, h⟩ => by cases h
theorem rung_of (mag : Nat) (place : Int) : ∃ r, r ≤ 2047 * 2 ^ 52 ∧ (mag = 0 → r = 0) ∧ ∀ s, F.nearest s mag place = F.word s r := by
  by_cases h : mag = 0
  · subst h
    refine ⟨0, by omega, fun _ => rfl, fun s => ?_⟩
    unfold Format.nearest; rw [if_pos rfl]
  · refine ⟨min ((ulast mag place + 1074).toNat * 2 ^ 52 + ukept false mag place) (2047 * 2 ^ 52), Nat.min_le_right _ _, fun e => (h e).elim, fun s => ?_⟩
    rw [nearest_eq s mag place h]
    have : ukept s mag place = ukept false mag place := rfl
    rw [this]
theorem read_top (s : Bool) : F.read (F.word s (2047 * 2 ^ 52)) = .infinity s := by cases s <;> decide +kernel
theorem word_nd (s t : Bool) (r : Nat) (hr : r ≤ 2047 * 2 ^ 52) (h : r ≠ 0 → t = !s) : NR (F.word s r) (F.word t r) := by
  unfold NR
  by_cases c : r = 2047 * 2 ^ 52
  · subst c
    rw [read_top, read_top]
    exact h (by decide)
  · rw [read_word s r (by omega), read_word t r (by omega)]
    by_cases c2 : r < 2 ^ 52
    · rw [if_pos c2, if_pos c2]; exact ⟨rfl, rfl, h⟩
    · rw [if_neg c2, if_neg c2]; exact ⟨rfl, rfl, fun _ => h (by omega)⟩
theorem write_inf (s : Bool) : F.read (F.write (.infinity s)) = .infinity s := by cases s <;> decide +kernel
theorem write_nd : ∀ {d d' : Datum}, ND d d' → (∀ s t, d ≠ .nan s t) → NR (F.write d) (F.write d')
  | .number s m p, .number t n q, h, _ => by
    obtain ⟨rfl, rfl, h3⟩ := h
    obtain ⟨r, h1, h2, e⟩ := rung_of m p
    show NR (F.nearest s m p) (F.nearest t m p)
    rw [e, e]
    exact word_nd s t r h1 (fun h0 => h3 (fun hm => h0 (h2 hm)))
  | .infinity s, .infinity t, h, _ => by
    unfold NR
    rw [write_inf, write_inf]
    exact h
  | .nan s t, _, _, hn => (hn s t rfl).elim
  | .number .., .infinity .., h, _ => h.elim
  | .number .., .nan .., h, _ => h.elim
  | .infinity .., .number .., h, _ => h.elim
  | .infinity .., .nan .., h, _ => h.elim
/-- two results: none both, or each other's negative -/
def PN (o o' : Option Datum) : Prop := (o = none ∧ o' = none) ∨ ∃ d d', o = some d ∧ o' = some d' ∧ ND d d' ∧ ∀ s t, d ≠ .nan s t
theorem PN.none_ : PN none none := Or.inl ⟨rfl, rfl⟩
theorem PN.num {s t : Bool} {m : Nat} {p : Int} (h : m ≠ 0 → t = !s) : PN (some (.number s m p)) (some (.number t m p)) := Or.inr ⟨_, _, rfl, rfl, ⟨rfl, rfl, h⟩, fun _ _ h => by cases h⟩
theorem PN.inf {s t : Bool} (h : t = !s) : PN (some (.infinity s)) (some (.infinity t)) := Or.inr ⟨_, _, rfl, rfl, h, fun _ _ h => by cases h⟩
theorem xor_not (s t : Bool) : ((!s) ^^ t) = !(s ^^ t) := by cases s <;> cases t <;> rfl
theorem prod_left : ∀ {a a' : Datum} (b : Datum), ND a a' → PN (a.product b) (a'.product b)
  | .nan .., .nan .., b, _ => by cases b <;> exact PN.none_
  | .infinity s, .infinity t, b, h => by
    cases (show t = !s from h)
    cases b with
    | nan => exact PN.none_
    | infinity u => exact PN.inf (xor_not s u)
    | number u n q =>
      show PN (if n = 0 then none else some (.infinity (s ^^ u))) (if n = 0 then none else some (.infinity ((!s) ^^ u)))
      split
      · exact PN.none_
      · exact PN.inf (xor_not s u)
  | .number s m p, .number t n q, b, h => by
    obtain ⟨rfl, rfl, h3⟩ := h
    cases b with
    | nan => exact PN.none_
    | infinity u =>
      show PN (if m = 0 then none else some (.infinity (u ^^ s))) (if m = 0 then none else some (.infinity (u ^^ t)))
      split
      · exact PN.none_
      · rename_i hm
        cases h3 hm
        exact PN.inf (by cases s <;> cases u <;> rfl)
    | number u n q =>
      show PN (some (.number (s ^^ u) (m * n) (p + q))) (some (.number (t ^^ u) (m * n) (p + q)))
      exact PN.num (fun hmn => by
        have hm : m ≠ 0 := fun h => hmn (by rw [h, Nat.zero_mul])
        cases h3 hm
        exact xor_not s u)
  | .number .., .infinity .., _, h => h.elim
  | .number .., .nan .., _, h => h.elim
  | .infinity .., .number .., _, h => h.elim
  | .infinity .., .nan .., _, h => h.elim
  | .nan .., .number .., _, h => h.elim
  | .nan .., .infinity .., _, h => h.elim
theorem prod_comm (a b : Datum) : a.product b = b.product a := by
  cases a <;> cases b <;> simp [Datum.product]
  · rename_i s m i t n j
    exact ⟨by cases s <;> cases t <;> rfl, Nat.mul_comm _ _, Int.add_comm _ _⟩
  · rename_i s t
    cases s <;> cases t <;> rfl
theorem prod_right {b b' : Datum} (a : Datum) (h : ND b b') : PN (a.product b) (a.product b') := by
  rw [prod_comm a b, prod_comm a b']; exact prod_left a h
theorem signed_nd {s t : Bool} {m k : Nat} (h : m ≠ 0 → t = !s) : signed t m k = - signed s m k := by
  by_cases hm : m = 0
  · subst hm; cases s <;> cases t <;> simp [signed]
  · cases h hm
    cases s <;> simp [signed]
theorem sum_nd : ∀ {a a' b b' : Datum}, ND a a' → ND b b' → PN (a.sum b) (a'.sum b')
  | .nan .., .nan .., b, b', _, _ => by cases b <;> cases b' <;> exact PN.none_
  | .infinity s, .infinity t, .infinity u, .infinity v, h, h' => by
    cases (show t = !s from h)
    cases (show v = !u from h')
    show PN (if s = u then some (.infinity s) else none) (if (!s) = (!u) then some (.infinity (!s)) else none)
    cases s <;> cases u <;> first | exact PN.none_ | exact PN.inf rfl
  | .infinity s, .infinity t, .number .., .number .., h, h' => PN.inf h
  | .infinity s, .infinity t, .nan .., .nan .., h, h' => PN.none_
  | .number .., .number .., .infinity .., .infinity .., h, h' => PN.inf h'
  | .number .., .number .., .nan .., .nan .., h, h' => PN.none_
  | .number s m p, .number t n q, .number u k i, .number v l j, h, h' => by
    obtain ⟨rfl, rfl, h3⟩ := h
    obtain ⟨rfl, rfl, h4⟩ := h'
    show PN (some (.number (if signed s m (p - min p i).toNat + signed u k (i - min p i).toNat = 0 then s && u else decide (signed s m (p - min p i).toNat + signed u k (i - min p i).toNat < 0)) (signed s m (p - min p i).toNat + signed u k (i - min p i).toNat).natAbs (min p i)))
      (some (.number (if signed t m (p - min p i).toNat + signed v k (i - min p i).toNat = 0 then t && v else decide (signed t m (p - min p i).toNat + signed v k (i - min p i).toNat < 0)) (signed t m (p - min p i).toNat + signed v k (i - min p i).toNat).natAbs (min p i)))
    rw [signed_nd h3, signed_nd h4]
    generalize signed s m (p - min p i).toNat = A
    generalize signed u k (i - min p i).toNat = B
    have e : (-A + -B).natAbs = (A + B).natAbs := by omega
    rw [e]
    refine PN.num (fun h0 => ?_)
    have hz : A + B ≠ 0 := by omega
    rw [if_neg hz, if_neg (by omega)]
    by_cases c : A + B < 0
    · simp [c]; omega
    · simp [c]; omega
  | .number .., .infinity .., _, _, h, _ => h.elim
  | .number .., .nan .., _, _, h, _ => h.elim
  | .infinity .., .number .., _, _, h, _ => h.elim
  | .infinity .., .nan .., _, _, h, _ => h.elim
  | .nan .., .number .., _, _, h, _ => h.elim
  | .nan .., .infinity .., _, _, h, _ => h.elim
  | .number .., .number .., .number .., .infinity .., _, h => h.elim
  | .number .., .number .., .number .., .nan .., _, h => h.elim
  | .number .., .number .., .infinity .., .number .., _, h => h.elim
  | .number .., .number .., .infinity .., .nan .., _, h => h.elim
  | .number .., .number .., .nan .., .number .., _, h => h.elim
  | .number .., .number .., .nan .., .infinity .., _, h => h.elim
  | .infinity .., .infinity .., .number .., .infinity .., _, h => h.elim
  | .infinity .., .infinity .., .number .., .nan .., _, h => h.elim
  | .infinity .., .infinity .., .infinity .., .number .., _, h => h.elim
  | .infinity .., .infinity .., .infinity .., .nan .., _, h => h.elim
  | .infinity .., .infinity .., .nan .., .number .., _, h => h.elim
  | .infinity .., .infinity .., .nan .., .infinity .., _, h => h.elim
theorem nr_nan {x y : Nat} (hx : isNan x) (hy : isNan y) : NR x y := by
  obtain ⟨s, t, e⟩ := hx
  obtain ⟨s', t', e'⟩ := hy
  unfold NR; rw [e, e']; trivial
theorem pn_nr {o o' : Option Datum} {r r' : Nat} (h : PN o o') (hr : o.map F.write = some r ∨ (o.map F.write = none ∧ isNan r)) (hr' : o'.map F.write = some r' ∨ (o'.map F.write = none ∧ isNan r')) : NR r r' := by
  rcases h with ⟨rfl, rfl⟩ | ⟨d, d', rfl, rfl, hd, hn⟩
  · rcases hr with h | ⟨-, h⟩
    · cases h
    · rcases hr' with h' | ⟨-, h'⟩
      · cases h'
      · exact nr_nan h h'
  · rcases hr with h | ⟨h, -⟩
    · rcases hr' with h' | ⟨h', -⟩
      · cases h; cases h'; exact write_nd hd hn
      · cases h'
    · cases h
theorem mul_l {x x' m p p' : Nat} (h : NR x x') (hp : BR .mul x m p) (hp' : BR .mul x' m p') : NR p p' := pn_nr (prod_left (F.read m) h) hp hp'
theorem mul_r' {x m m' p p' : Nat} (h : NR m m') (hp : BR .mul x m p) (hp' : BR .mul x m' p') : NR p p' := pn_nr (prod_right (F.read x) h) hp hp'
theorem add_lr {x x' y y' p p' : Nat} (h : NR x x') (h2 : NR y y') (hp : BR .add x y p) (hp' : BR .add x' y' p') : NR p p' := pn_nr (sum_nd h h2) hp hp'
/-- a row of the matrix times the vector -/
def RowR (m0 m1 m2 x y z r : Nat) : Prop := ∃ p0 p1 s p2, BR .mul x m0 p0 ∧ BR .mul y m1 p1 ∧ BR .add p0 p1 s ∧ BR .mul z m2 p2 ∧ BR .add s p2 r
theorem row_vec {m0 m1 m2 x y z x' y' z' r r' : Nat} (hx : NR x x') (hy : NR y y') (hz : NR z z') (h : RowR m0 m1 m2 x y z r) (h' : RowR m0 m1 m2 x' y' z' r') : NR r r' := by
  obtain ⟨p0, p1, s, p2, a1, a2, a3, a4, a5⟩ := h
  obtain ⟨q0, q1, t, q2, b1, b2, b3, b4, b5⟩ := h'
  exact add_lr (add_lr (mul_l hx a1 b1) (mul_l hy a2 b2) a3 b3) (mul_l hz a4 b4) a5 b5
theorem row_mat {m0 m1 m2 n0 n1 n2 x y z r r' : Nat} (hx : NR m0 n0) (hy : NR m1 n1) (hz : NR m2 n2) (h : RowR m0 m1 m2 x y z r) (h' : RowR n0 n1 n2 x y z r') : NR r r' := by
  obtain ⟨p0, p1, s, p2, a1, a2, a3, a4, a5⟩ := h
  obtain ⟨q0, q1, t, q2, b1, b2, b3, b4, b5⟩ := h'
  exact add_lr (add_lr (mul_r' hx a1 b1) (mul_r' hy a2 b2) a3 b3) (mul_r' hz a4 b4) a5 b5
/-- what the law's own comparison finds of a word and of a negative -/
theorem same {r n : Nat} (wr : r < 2 ^ 64) (h : NR r n) : eqB n (negB r) = true ∨ (isNan n ∧ isNan (negB r)) := by
  unfold NR at h
  have e := neg_read wr
  cases hr : F.read r with
  | nan s t =>
    rw [hr] at h e
    refine Or.inr ⟨?_, ⟨_, _, e⟩⟩
    obtain ⟨s', t', h'⟩ := nd_same_left h ⟨_, _, rfl⟩
    exact ⟨s', t', h'⟩
  | infinity s =>
    rw [hr] at h e
    refine Or.inl ?_
    cases hn : F.read n with
    | infinity t =>
      rw [hn] at h
      cases (show t = !s from h)
      show ((F.read n).order (F.read (negB r)) == some .eq) = true
      rw [hn, e]
      cases s <;> decide
    | nan => rw [hn] at h; exact h.elim
    | number => rw [hn] at h; exact h.elim
  | number s m p =>
    rw [hr] at h e
    refine Or.inl ?_
    cases hn : F.read n with
    | infinity t => rw [hn] at h; exact h.elim
    | nan => rw [hn] at h; exact h.elim
    | number t m' p' =>
      rw [hn] at h
      obtain ⟨rfl, rfl, h3⟩ := h
      show ((F.read n).order (F.read (negB r)) == some .eq) = true
      rw [hn, e]
      show (some (compare (signed t m (p - min p p).toNat) (signed (!s) m (p - min p p).toNat)) == some Ordering.eq) = true
      have : signed t m (p - min p p).toNat = signed (!s) m (p - min p p).toNat := by
        rw [signed_nd h3, signed_nd (s := s) (t := !s) (fun _ => rfl)]
      rw [this]
      simp
end Od
end Go.Proofs.Ytanaamlkiackbaa
