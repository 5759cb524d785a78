/- The class of a token kind; the recursive scan. -/
import Derived.Test.YtfklgdecaknbaaaFmtCu2
import Derived.Test.YtfklgdecaknbaaaFmtAnp
set_option linter.unusedVariables false
set_option linter.unusedSimpArgs false
namespace Go.Proofs.YtfklgdecaknbaaaFmt
open Go.RowKit
def clsK (k : Int) : Cls := if k = 0 then .eof else if k = 8 ∨ k = 7 ∨ k = 6 then .close k else if k = 35 ∨ k = 19 then .semi else if k = 33 ∨ k = 27 then .opn 8 else if k = 32 then .opn 7 else if k = 31 then .opn 6 else .other
def cl (n : Nat) (K : Nat → Int) (i : Nat) : Cls := clsK (atK n K i)
theorem cl_eof (n : Nat) (K : Nat → Int) : ∀ i, n ≤ i → cl n K i = .eof := fun i hi => by unfold cl atK; rw [if_neg (by omega)]; rfl
theorem cl_lt {n : Nat} {K : Nat → Int} {i : Nat} (h : cl n K i ≠ .eof) : i < n := by
  by_cases c : i < n
  · exact c
  · exact absurd (cl_eof n K i (by omega)) h
theorem Rn_le (n : Nat) (K : Nat → Int) : ∀ (m i : Nat) (st : List Int), n - i ≤ m → i ≤ n → Rn (cl n K) n i st ≤ n := by
  intro m
  induction m with
  | zero =>
    intro i st hm hi
    rw [Rn_step hi, cl_eof n K i (by omega)]
    exact hi
  | succ m ih =>
    intro i st hm hi
    by_cases e : cl n K i = .eof
    · rw [Rn_step hi, e]; exact hi
    · have hlt := cl_lt e
      have h2 := fun st => ih (i + 1) st (by omega) (by omega)
      rw [Rn_step hi]
      split
      · split
        · split
          · exact h2 _
          · exact hi
        · exact hi
      · split
        · exact hi
        · exact h2 _
      · exact h2 _
      · exact hi
      · exact h2 _
theorem Sn_lt {n : Nat} {K : Nat → Int} {i : Nat} (hi : i ≤ n) {w : Int} (h : (Sn (cl n K) n i w true).2 = false) : (Sn (cl n K) n i w true).1 < n :=
  (((same_end (cl_eof n K) (n - i) i (Nat.le_refl _) hi).1 w []).2 h).1
theorem Sn_le {n : Nat} {K : Nat → Int} {i : Nat} (hi : i ≤ n) (w : Int) (b : Bool) : (Sn (cl n K) n i w b).1 ≤ n := by
  have h := same_end (cl_eof n K) (n - i) i (Nat.le_refl _) hi
  cases b with
  | false => rw [← h.2 w]; exact Rn_le n K _ i [] (Nat.le_refl _) hi
  | true =>
    by_cases c : (Sn (cl n K) n i w true).2 = true
    · rw [← (h.1 w []).1 c]; exact Rn_le n K _ i [w] (Nat.le_refl _) hi
    · exact Nat.le_of_lt (Sn_lt hi (by simpa using c))
set_option maxRecDepth 100000 in
theorem kind13_c (A : Option Addr) (n c i : Nat) (K : Nat → Int) (w : World) (h : Row .u8 w A n K) (hn : n ≤ 1048576) (hi : i ≤ n) :
    Calls Tryf.prog 13 #[.slice A n c, .int .i64 i] w fun e w' => e = .returned (.int .u8 (atK n K i)) ∧ Below w.heap.size w w' := by
  by_cases hlt : i < n
  · obtain ⟨x, rfl, g0⟩ := h i hlt
    have e : atK n K i = K i := if_pos hlt
    have E := Lib.hid e
    have i0 : (0 : Int) ≤ (i : Int) := by omega
    have i1 : (i : Int) < (n : Int) := by omega
    clear e h
    go_enter Tryf.func13, Tryf.ntmps13
    go_wp2
    go_ret
    exact ⟨by rw [E.out]; rfl, Below.refl _ _⟩
  · have e : atK n K i = 0 := if_neg hlt
    have E := Lib.hid e
    have i1 : (n : Int) ≤ (i : Int) := by omega
    clear e h
    go_enter Tryf.func13, Tryf.ntmps13
    go_wp2
    go_ret
    exact ⟨by rw [E.out]; rfl, Below.refl _ _⟩
end Go.Proofs.YtfklgdecaknbaaaFmt
