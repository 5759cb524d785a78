/- FnFlattenMatchesStreamModel: where nothing is left, the first compound had neither type nor nesting. -/
import Derived.Test.YtjigljpodkfchadFlp
set_option linter.unusedVariables false
set_option linter.unusedSimpArgs false
namespace Go.Proofs.Ytjigljpodkfchad
open Go.RowKit
theorem emp_iff (k : Ck SK) : emp k = true ↔ k.nn = 0 ∧ k.ty = none ∧ k.ks = [] := by
  unfold emp
  simp [and_assoc]
theorem mergeK_full (s : Ck SK) (x : Ck ByteArray) (h : emp s = false) : emp (mergeK s x) = false := by
  cases e : emp (mergeK s x) with
  | false => rfl
  | true =>
    obtain ⟨e1, e2, e3⟩ := (emp_iff _).1 e
    have h1 : s.nn = 0 := by simp only [mergeK, mNn] at e1; split at e1 <;> omega
    have h2 : s.ty = none := by
      obtain ⟨cb, ty, nn, ks⟩ := s
      cases ty with
      | none => rfl
      | some t => simp [mergeK, mTy] at e2
    have h3 : s.ks = [] := by
      simp only [mergeK, List.append_eq_nil_iff] at e3
      exact e3.1.1
    have : emp s = true := (emp_iff _).2 ⟨h1, h2, h3⟩
    rw [this] at h
    cases h
theorem mrg_full (s : Ck SK) (l : List (Ck ByteArray)) (h : emp s = false) : emp (mrg s l) = false := by
  unfold mrg
  cases l with
  | nil => exact h
  | cons t r => simp only; split; exact mergeK_full s t h; exact h
def full (st : St) : Prop := st.1 ≠ [] ∨ emp st.2 = false
theorem sub_full (st : St) (x : SK) (h : full st) : full (subStep st x) := by
  unfold subStep
  split
  · cases x with
    | inl _ => exact h
    | inr q =>
      show full (wrapStep st q.2)
      unfold wrapStep
      rcases last_cases (rst q.2) with ⟨e, -⟩ | ⟨z, e, -⟩
      · rw [e]
        rcases h with h | h
        · exact .inl h
        · exact .inr (mrg_full _ _ h)
      · rw [e]
        left
        rcases h with h | h
        · intro q2
          simp only [List.append_eq_nil_iff] at q2
          exact h q2.1.1
        · intro q2
          simp only [List.append_eq_nil_iff, out1, mrg_full _ _ h] at q2
          simp at q2
  · rcases h with h | h
    · exact .inl h
    · right
      cases e : emp (addS st x).2 with
      | false => rfl
      | true =>
        obtain ⟨e1, e2, e3⟩ := (emp_iff _).1 e
        simp [addS] at e3
theorem fold_full (ks : List SK) : ∀ st : St, full st → full (ks.foldl subStep st) := by
  induction ks with
  | nil => exact fun _ h => h
  | cons x r ih => exact fun st h => ih _ (sub_full st x h)
theorem comp_ne (l : List (Ck SK)) : ∀ acc : List (Ck SK), acc ≠ [] → l.foldl compStep acc ≠ [] := by
  induction l with
  | nil => exact fun _ h => h
  | cons c r ih =>
    intro acc h
    refine ih _ ?_
    have := fold_full c.ks (acc, newC c) (.inl h)
    unfold compStep compEnd
    intro q
    simp only [List.append_eq_nil_iff] at q
    rcases this with q2 | q2
    · exact q2 q.1
    · rw [out1, q2] at q; simp at q
theorem flat_nil_first {x : Ck SK} {r : List (Ck SK)} (h : flatK (x :: r) = []) : x.ty = none ∧ x.nn = 0 := by
  cases e : emp (newC x) with
  | true => obtain ⟨e1, e2, -⟩ := (emp_iff _).1 e; exact ⟨e2, e1⟩
  | false =>
    exfalso
    refine comp_ne r (compStep [] x) ?_ h
    have := fold_full x.ks ([], newC x) (.inr e)
    unfold compStep compEnd
    intro q
    simp only [List.append_eq_nil_iff] at q
    rcases this with q2 | q2
    · exact q2 q.1
    · rw [out1, q2] at q; simp at q
end Go.Proofs.Ytjigljpodkfchad
