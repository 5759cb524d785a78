/- FnMangleSide: plain facts about the four declarations. -/
import Derived.Test.YtgijoikmggjopaaDoorMs5
import Derived.Test.YtgijoikmggjopaaDoorMs6
import Derived.Test.YtgijoikmggjopaaDoorMs8
set_option linter.unusedVariables false
set_option linter.unusedSimpArgs false
namespace Go.Proofs.YtgijoikmggjopaaDoor
open Go.RowKit
def accB (al : Bool) (c : Int) : Bool := c != 3 || al
/-- the sides after i declarations: side p j has the code x (p j), its place is l j -/
def Fi (x l : Nat → Int) (p : Nat → Nat) (al : Bool) : Nat → Nat → Sd
  | 0 => fun _ => Sd0
  | i + 1 => if accB al (x (p i)) = true then upF (Fi x l p al i) (p i) (sdC (x (p i)) (l i) (i + 1)) else fun _ => Sd0
theorem Fi_out (x l : Nat → Int) (p : Nat → Nat) (al : Bool) (s : Nat) : ∀ i, (∀ j, j < i → p j ≠ s) → Fi x l p al i s = Sd0
  | 0, _ => rfl
  | i + 1, h => by
    unfold Fi
    split
    · unfold upF
      rw [if_neg (fun e => h i (by omega) e.symm)]
      exact Fi_out x l p al s i (fun j hj => h j (by omega))
    · rfl
theorem Fi_no (x l : Nat → Int) (p : Nat → Nat) (al : Bool) (n : Nat) (hp : ∀ i, i < n → ∀ j, j < n → p i = p j → i = j) (k : Nat) (hk : accB al (x (p k)) = false) : ∀ i, i ≤ n → k < i → Fi x l p al i (p k) = Sd0
  | 0, _, h => by omega
  | i + 1, hi, h => by
    unfold Fi
    split
    · rename_i hc
      unfold upF
      by_cases e : p k = p i
      · rw [e] at hk; rw [hk] at hc; cases hc
      · rw [if_neg e]
        refine Fi_no x l p al n hp k hk i (by omega) ?_
        by_cases e2 : k = i
        · subst e2; exact absurd rfl e
        · omega
    · rfl
theorem Fi_yes (x l : Nat → Int) (p : Nat → Nat) (al : Bool) (n : Nat) (hp : ∀ i, i < n → ∀ j, j < n → p i = p j → i = j) (ha : ∀ i, i < n → accB al (x (p i)) = true) (k : Nat) : ∀ i, i ≤ n → k < i → Fi x l p al i (p k) = sdC (x (p k)) (l k) (k + 1)
  | 0, _, h => by omega
  | i + 1, hi, h => by
    unfold Fi
    rw [if_pos (ha i (by omega))]
    unfold upF
    by_cases e : k = i
    · subst e; rw [if_pos rfl]
    · rw [if_neg (fun h2 => e (hp k (by omega) i (by omega) h2))]
      exact Fi_yes x l p al n hp ha k i (by omega) (by omega)
/-- where side s stands -/
def qS (m s : Nat) : Nat := if pS m 0 = s then 0 else if pS m 1 = s then 1 else if pS m 2 = s then 2 else 3
theorem qS_lt (m s : Nat) : qS m s < 4 := by
  unfold qS
  repeat' split
  all_goals omega
theorem pS_qS : ∀ m, m < 24 → ∀ s, s < 4 → pS m (qS m s) = s := by decide +kernel
theorem qS_pS : ∀ m, m < 24 → ∀ i, i < 4 → qS m (pS m i) = i := by decide +kernel
theorem qS_inj (m : Nat) (hm : m < 24) (i j : Nat) (hi : i < 4) (hj : j < 4) (h : qS m i = qS m j) : i = j := by
  have := congrArg (pS m) h
  rwa [pS_qS m hm i hi, pS_qS m hm j hj] at this
theorem kd_zk (c lo : Int) (h0 : 0 ≤ c) (h4 : c ≤ 4) : ((zk c lo).kd == 0) = false := by
  show (kdS c == 0) = false
  rcases c5 h0 h4 with rfl | rfl | rfl | rfl | rfl <;> decide
theorem seen_no (q : Nat → Nat) (i : Nat) (hi : i < 4) (hq : ∀ i j, i < 4 → j < 4 → q i = q j → i = j) : seenB q i i = false := by
  unfold seenB
  rw [List.any_eq_false]
  intro j hj
  rw [List.mem_range] at hj
  simp only [decide_eq_true_eq]
  intro e
  have := hq j i (by omega) hi e
  omega
theorem lF_perm (q : Nat → Nat) (L : Nat → Int) (i : Nat) (hi : i < 4) (hq : ∀ i j, i < 4 → j < 4 → q i = q j → i = j) : lF q L i = L (q i) := by
  unfold lF
  rw [seen_no q i hi hq]
  rfl
theorem sn_all (q p : Nat → Nat) (hp : ∀ j, j < 4 → p j < 4 ∧ q (p j) = j) (j : Nat) (hj : j < 4) : sn q 4 j = true := by
  unfold sn
  rw [List.any_eq_true]
  exact ⟨p j, by rw [List.mem_range]; exact (hp j hj).1, by simpa using (hp j hj).2⟩
/-- the least of the four, as the law reckons it -/
def mn4 (a b c d : Int) : Int :=
  let x := if b < a then b else a
  let y := if c < x then c else x
  if d < y then d else y
theorem mn4_spec (a b c d : Int) : mn4 a b c d ≤ a ∧ mn4 a b c d ≤ b ∧ mn4 a b c d ≤ c ∧ mn4 a b c d ≤ d ∧ (mn4 a b c d = a ∨ mn4 a b c d = b ∨ mn4 a b c d = c ∨ mn4 a b c d = d) := by
  unfold mn4
  dsimp only
  repeat' split
  all_goals omega
theorem mnF_4 (q : Nat → Nat) (L : Nat → Int) (hq : ∀ i j, i < 4 → j < 4 → q i = q j → i = j) : mnF q L 4 = mn4 (L (q 0)) (L (q 1)) (L (q 2)) (L (q 3)) := by
  have h0 := lF_perm q L 0 (by omega) hq
  have h1 := lF_perm q L 1 (by omega) hq
  have h2 := lF_perm q L 2 (by omega) hq
  have h3 := lF_perm q L 3 (by omega) hq
  have e0 : mnF q L 1 = L (q 0) := by show (if (0 : Nat) = 0 ∨ _ then lF q L 0 else _) = _; rw [if_pos (.inl rfl), h0]
  have e1 : mnF q L 2 = if L (q 1) < L (q 0) then L (q 1) else L (q 0) := by
    show (if (1 : Nat) = 0 ∨ lF q L 1 < mnF q L 1 then lF q L 1 else mnF q L 1) = _
    rw [h1, e0]
    by_cases h : L (q 1) < L (q 0)
    · rw [if_pos (.inr h), if_pos h]
    · rw [if_neg (by omega), if_neg h]
  have e2 : mnF q L 3 = if L (q 2) < mnF q L 2 then L (q 2) else mnF q L 2 := by
    show (if (2 : Nat) = 0 ∨ lF q L 2 < mnF q L 2 then lF q L 2 else mnF q L 2) = _
    rw [h2]
    by_cases h : L (q 2) < mnF q L 2
    · rw [if_pos (.inr h), if_pos h]
    · rw [if_neg (by omega), if_neg h]
  have e3 : mnF q L 4 = if L (q 3) < mnF q L 3 then L (q 3) else mnF q L 3 := by
    show (if (3 : Nat) = 0 ∨ lF q L 3 < mnF q L 3 then lF q L 3 else mnF q L 3) = _
    rw [h3]
    by_cases h : L (q 3) < mnF q L 3
    · rw [if_pos (.inr h), if_pos h]
    · rw [if_neg (by omega), if_neg h]
  rw [e3, e2, e1]
  rfl
theorem mn4_perm (q p : Nat → Nat) (L : Nat → Int) (h1 : ∀ i, i < 4 → q i < 4) (h2 : ∀ i, i < 4 → p i < 4 ∧ q (p i) = i) : mn4 (L (q 0)) (L (q 1)) (L (q 2)) (L (q 3)) = mn4 (L 0) (L 1) (L 2) (L 3) := by
  obtain ⟨a0, a1, a2, a3, ae⟩ := mn4_spec (L (q 0)) (L (q 1)) (L (q 2)) (L (q 3))
  obtain ⟨b0, b1, b2, b3, be⟩ := mn4_spec (L 0) (L 1) (L 2) (L 3)
  have hA : ∀ i, i < 4 → mn4 (L (q 0)) (L (q 1)) (L (q 2)) (L (q 3)) ≤ L i := fun i hi => by
    obtain ⟨h, e⟩ := h2 i hi
    rw [← e]
    rcases (by omega : p i = 0 ∨ p i = 1 ∨ p i = 2 ∨ p i = 3) with h | h | h | h <;> rw [h] <;> assumption
  have hB : ∀ i, i < 4 → mn4 (L 0) (L 1) (L 2) (L 3) ≤ L (q i) := fun i hi => by
    have := h1 i hi
    rcases (by omega : q i = 0 ∨ q i = 1 ∨ q i = 2 ∨ q i = 3) with h | h | h | h <;> rw [h] <;> assumption
  have c0 := hA 0 (by omega)
  have c1 := hA 1 (by omega)
  have c2 := hA 2 (by omega)
  have c3 := hA 3 (by omega)
  have d0 := hB 0 (by omega)
  have d1 := hB 1 (by omega)
  have d2 := hB 2 (by omega)
  have d3 := hB 3 (by omega)
  omega
/-- all four are taken, and of one safe unit -/
def okS (al : Bool) (x : Nat → Int) (s : Nat) : Bool := x s != 4 && accB al (x s)
def okN (al : Bool) (x : Nat → Int) (n : Nat) : Bool := (List.range n).all (okS al x)
theorem okN_succ (al : Bool) (x : Nat → Int) (n : Nat) : okN al x (n + 1) = (okN al x n && okS al x n) := by
  unfold okN
  rw [List.range_succ, List.all_append]
  simp
theorem okN_yes {al : Bool} {x : Nat → Int} {n : Nat} (h : okN al x n = true) (s : Nat) (hs : s < n) : x s ≠ 4 ∧ accB al (x s) = true := by
  unfold okN at h
  rw [List.all_eq_true] at h
  have := h s (by rw [List.mem_range]; exact hs)
  unfold okS at this
  simpa using this
theorem okN_no {al : Bool} {x : Nat → Int} {n : Nat} (h : okN al x n = false) : ∃ s, s < n ∧ (x s = 4 ∨ accB al (x s) = false) := by
  unfold okN at h
  rw [List.all_eq_false] at h
  obtain ⟨s, hs, h⟩ := h
  rw [List.mem_range] at hs
  refine ⟨s, hs, ?_⟩
  unfold okS at h
  cases e : accB al (x s)
  · exact .inr rfl
  · rw [e] at h
    simp at h
    exact .inl h
end Go.Proofs.YtgijoikmggjopaaDoor
