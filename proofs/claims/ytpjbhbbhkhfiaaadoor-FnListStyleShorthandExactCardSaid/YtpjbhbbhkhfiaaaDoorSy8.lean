/- What the law's check reads off the parser. -/
import Derived.Test.YtpjbhbbhkhfiaaaDoorSy4
set_option linter.unusedVariables false
set_option linter.unusedSimpArgs false
namespace Go.Proofs.YtpjbhbbhkhfiaaaDoor
open Go.RowKit
def Gv (v : Value) (w : World) (e : Ending) (w' : World) : Prop := e = .returned v ∧ Below w.heap.size w w'
theorem cnt9_c (w : World) (S : Nat → Prop) (G B : Nat) (mk : Bool) (l : List SyR) (h : PS w S G B mk l) : Calls Tryd.prog 11 #[.pointer (some ⟨B, 0, none⟩)] w (Gv (.int .i64 l.length) w) := by
  obtain ⟨m1, m2, v1, v2, D, h⟩ := h
  obtain ⟨a1, n1, rfl, -, -⟩ := own_shape h.o1
  have c := h.c21
  clear h
  go_enter Tryd.func11, Tryd.ntmps11
  go_wp2
  go_ret
  exact ⟨rfl, Below.refl _ _⟩
theorem cnt10_c (w : World) (S : Nat → Prop) (G B : Nat) (mk : Bool) (l : List SyR) (h : PS w S G B mk l) : Calls Tryd.prog 12 #[.pointer (some ⟨B, 0, none⟩)] w (Gv (.int .i64 ((if mk then l.length else 0 : Nat) : Int)) w) := by
  obtain ⟨m1, m2, v1, v2, D, h⟩ := h
  obtain ⟨a2, n2, e2, -, -⟩ := own_shape h.o2
  have c := h.c23
  rw [e2] at c
  clear h e2
  generalize (if mk = true then l.length else 0) = n at c ⊢
  go_enter Tryd.func12, Tryd.ntmps12
  go_wp2
  go_ret
  exact ⟨rfl, Below.refl _ _⟩
theorem rd20_c (w : World) (S : Nat → Prop) (G B : Nat) (mk : Bool) (l : List SyR) (h : PS w S G B mk l) (i : Nat) (r : SyR) (hi : l[i]? = some r) : Calls Tryd.prog 14 #[.pointer (some ⟨B, 0, none⟩), .int .i64 i] w (Gv (.string r.name) w) := by
  obtain ⟨m1, m2, v1, v2, D, h⟩ := h
  have hil := (List.getElem?_eq_some_iff.1 hi).1
  obtain ⟨g, n1, rfl, -, -, -, -⟩ := own_some h.o1 (by omega)
  have c := h.c21
  have d := own_at (symC_len (kd mk)) h.o1 hi (j := 1) rfl
  have j0 : (0 : Int) ≤ (i : Int) := by omega
  have j1 : (i : Int) < (l.length : Int) := by omega
  clear h
  go_enter Tryd.func14, Tryd.ntmps14
  go_wp2
  go_ret
  exact ⟨rfl, Below.refl _ _⟩
end Go.Proofs.YtpjbhbbhkhfiaaaDoor
