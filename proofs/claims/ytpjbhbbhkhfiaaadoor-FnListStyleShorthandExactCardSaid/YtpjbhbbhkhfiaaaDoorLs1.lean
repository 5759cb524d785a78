/- The list-style law's two reckonings over classes of tokens: the law's model and the code's agree. Plain Lean. -/
import Derived.Test.YtpjbhbbhkhfiaaaDoorWd
set_option linter.unusedVariables false
set_option linter.unusedSimpArgs false
namespace Go.Proofs.YtpjbhbbhkhfiaaaDoor
open Go.RowKit
/- classes: 0 a string, 1 a url, 2 an image function, 3 another token, 4 'none', 5 'inside' or 'outside', 6 a reserved word, 7 a name of the author's -/
/-- the model's state: images, nones, a position seen, candidates, the first of them -/
structure MS where
  im : Nat
  no : Nat
  ps : Bool
  cs : Nat
  cd : Int
def mAdd (s : MS) (i : Nat) : MS := { s with cs := s.cs + 1, cd := if s.cd = -1 then (i : Int) else s.cd }
def mStep (c i : Nat) (s : MS) : Option MS :=
  if c = 0 ∨ c = 3 then none
  else if c = 1 ∨ c = 2 then some { s with im := s.im + 1 }
  else if c = 4 then some { s with no := s.no + 1 }
  else if c = 5 ∧ s.ps = false then some { s with ps := true }
  else some (mAdd s i)
def mS (cl : Nat → Nat) : Nat → Option MS
  | 0 => some ⟨0, 0, false, 0, -1⟩
  | k + 1 => (mS cl k).bind (mStep (cl k) k)
def mEnd (cl : Nat → Nat) (s : MS) : Int :=
  if 1 < s.im ∨ s.cs ≠ 1 then -1 else if s.no > (if s.im = 0 then 1 else 0) then -1 else if cl s.cd.toNat = 6 then -1 else s.cd
def mR (cl : Nat → Nat) (n : Nat) : Int := match mS cl n with
  | none => -1
  | some s => mEnd cl s
/-- the code's state: an image found, a position found, the type's index, nones -/
structure PSt where
  fi : Bool
  fp : Bool
  ti : Int
  nc : Nat
def pStep (c i : Nat) (s : PSt) : Option PSt :=
  if c = 1 ∨ c = 2 then (if s.fi = false then some { s with fi := true } else none)
  else if c = 4 then some { s with nc := s.nc + 1 }
  else if c = 5 ∧ s.fp = false then some { s with fp := true }
  else if (c = 5 ∨ c = 7) ∧ s.ti = -1 then some { s with ti := (i : Int) }
  else none
def pS (cl : Nat → Nat) : Nat → Option PSt
  | 0 => some ⟨false, false, -1, 0⟩
  | k + 1 => (pS cl k).bind (pStep (cl k) k)
def pEnd (s : PSt) : Int := if s.ti = -1 then -1 else if (if s.fi = false ∧ 0 < s.nc then s.nc - 1 else s.nc) > 0 then -1 else s.ti
def pR (cl : Nat → Nat) (n : Nat) : Int := match pS cl n with
  | none => -1
  | some s => pEnd s
theorem mS_none {cl : Nat → Nat} {k n : Nat} (h : mS cl k = none) (hk : k ≤ n) : mS cl n = none := by
  obtain ⟨d, rfl⟩ : ∃ d, n = k + d := ⟨n - k, by omega⟩
  induction d with
  | zero => exact h
  | succ d ih => show (mS cl (k + d)).bind _ = none; rw [ih (by omega)]; rfl
theorem pS_none {cl : Nat → Nat} {k n : Nat} (h : pS cl k = none) (hk : k ≤ n) : pS cl n = none := by
  obtain ⟨d, rfl⟩ : ∃ d, n = k + d := ⟨n - k, by omega⟩
  induction d with
  | zero => exact h
  | succ d ih => show (pS cl (k + d)).bind _ = none; rw [ih (by omega)]; rfl
theorem mS_cong {cl cl' : Nat → Nat} : ∀ n, (∀ i, i < n → cl i = cl' i) → mS cl n = mS cl' n
  | 0, _ => rfl
  | n + 1, h => by show (mS cl n).bind _ = (mS cl' n).bind _; rw [mS_cong n (fun i hi => h i (by omega)), h n (by omega)]
theorem pS_cong {cl cl' : Nat → Nat} : ∀ n, (∀ i, i < n → cl i = cl' i) → pS cl n = pS cl' n
  | 0, _ => rfl
  | n + 1, h => by show (pS cl n).bind _ = (pS cl' n).bind _; rw [pS_cong n (fun i hi => h i (by omega)), h n (by omega)]
theorem mS_cd {cl : Nat → Nat} : ∀ n s, mS cl n = some s → s.cd = -1 ∨ (0 ≤ s.cd ∧ s.cd < n)
  | 0, s, h => by injection h with h; subst h; exact .inl rfl
  | n + 1, s, h => by
    have h : (mS cl n).bind (mStep (cl n) n) = some s := h
    cases hm : mS cl n with
    | none => rw [hm] at h; cases h
    | some t =>
      rw [hm] at h
      have h : mStep (cl n) n t = some s := h
      have ih := mS_cd n t hm
      unfold mStep mAdd at h
      repeat' split at h
      all_goals first | (cases h; done) | (injection h with h; subst h; simp only; first | (split <;> omega) | omega)
def tri (a b c : Nat) (i : Nat) : Nat := if i = 0 then a else if i = 1 then b else if i = 2 then c else 3
theorem agree3 : ∀ a < 8, ∀ b < 8, ∀ c < 8, mR (tri a b c) 1 = pR (tri a b c) 1 ∧ mR (tri a b c) 2 = pR (tri a b c) 2 ∧ mR (tri a b c) 3 = pR (tri a b c) 3 := by decide +kernel
theorem mR_cong {cl cl' : Nat → Nat} {n : Nat} (h : ∀ i, i < n → cl i = cl' i) : mR cl n = mR cl' n := by
  unfold mR
  rw [← mS_cong n h]
  cases hm : mS cl n with
  | none => rfl
  | some s =>
    simp only
    unfold mEnd
    rcases mS_cd n s hm with e | ⟨e1, e2⟩
    · by_cases c : 1 < s.im ∨ s.cs ≠ 1
      · rw [if_pos c, if_pos c]
      · rw [if_neg c, if_neg c, e]
        simp only [show (if cl (Int.toNat (-1)) = 6 then (-1 : Int) else -1) = -1 by split <;> rfl, show (if cl' (Int.toNat (-1)) = 6 then (-1 : Int) else -1) = -1 by split <;> rfl]
    · rw [h s.cd.toNat (by omega)]
theorem pR_cong {cl cl' : Nat → Nat} {n : Nat} (h : ∀ i, i < n → cl i = cl' i) : pR cl n = pR cl' n := by
  unfold pR; rw [pS_cong n h]
theorem tri_eq (cl : Nat → Nat) (n : Nat) (hn : n ≤ 3) : ∀ i, i < n → cl i = tri (cl 0) (cl 1) (cl 2) i := fun i hi => by
  obtain rfl | rfl | rfl : i = 0 ∨ i = 1 ∨ i = 2 := by omega
  · rfl
  · rfl
  · rfl
theorem agree (cl : Nat → Nat) (hc : ∀ i, cl i < 8) (n : Nat) (h1 : 1 ≤ n) (h3 : n ≤ 3) : mR cl n = pR cl n := by
  rw [mR_cong (tri_eq cl n h3), pR_cong (tri_eq cl n h3)]
  obtain ⟨e1, e2, e3⟩ := agree3 _ (hc 0) _ (hc 1) _ (hc 2)
  obtain rfl | rfl | rfl : n = 1 ∨ n = 2 ∨ n = 3 := by omega
  · exact e1
  · exact e2
  · exact e3
theorem pS_other {cl : Nat → Nat} {i n : Nat} (hi : i < n) (h : cl i = 3) : pS cl n = none := by
  refine pS_none (k := i + 1) ?_ hi
  show (pS cl i).bind (pStep (cl i) i) = none
  rw [h]
  cases pS cl i <;> rfl
theorem pR_lt {cl : Nat → Nat} : ∀ n s, pS cl n = some s → s.ti = -1 ∨ (0 ≤ s.ti ∧ s.ti < n)
  | 0, s, h => by injection h with h; subst h; exact .inl rfl
  | n + 1, s, h => by
    have h : (pS cl n).bind (pStep (cl n) n) = some s := h
    cases hm : pS cl n with
    | none => rw [hm] at h; cases h
    | some t =>
      rw [hm] at h
      have h : pStep (cl n) n t = some s := h
      have ih := pR_lt n t hm
      unfold pStep at h
      repeat' split at h
      all_goals first | (cases h; done) | (injection h with h; subst h; simp only; omega)
theorem pEnd_rng {cl : Nat → Nat} {n : Nat} : pR cl n = -1 ∨ (0 ≤ pR cl n ∧ pR cl n < n) := by
  unfold pR
  cases h : pS cl n with
  | none => exact .inl rfl
  | some s =>
    simp only
    unfold pEnd
    have := pR_lt n s h
    repeat' split
    all_goals omega
end Go.Proofs.YtpjbhbbhkhfiaaaDoor
