/- symbolForName as a function of the table; handleSingleContainerName. -/
import Derived.Test.YtpjbhbbhkhfiaaaDoorSy3
import Derived.Test.YtpjbhbbhkhfiaaaDoorED
set_option linter.unusedVariables false
set_option linter.unusedSimpArgs false
namespace Go.Proofs.YtpjbhbbhkhfiaaaDoor
open Go.RowKit
def idxS (l : List SyR) (nm : ByteArray) : Option Nat := l.findIdx? (fun r => decide (r.name = nm))
def numS (l : List SyR) (nm : ByteArray) : Nat := (idxS l nm).getD l.length
def addS (l : List SyR) (nm : ByteArray) : List SyR := match idxS l nm with
  | some i => l.set i ⟨nm, ((l[i]?).map SyR.uses).getD 0 + 1⟩
  | none => l ++ [⟨nm, 1⟩]
structure FitS (l : List SyR) (n : Nat) : Prop where
  len : l.length ≤ n
  uses : ∀ r ∈ l, 0 ≤ r.uses ∧ r.uses ≤ n
theorem FitS.nil (n : Nat) : FitS [] n := ⟨Nat.zero_le _, fun r h => by simp at h⟩
theorem idxS_some {l : List SyR} {nm : ByteArray} {i : Nat} (h : idxS l nm = some i) : ∃ u, l[i]? = some ⟨nm, u⟩ := by
  unfold idxS at h
  rw [List.findIdx?_eq_some_iff_getElem] at h
  obtain ⟨hi, hp, -⟩ := h
  refine ⟨l[i].uses, ?_⟩
  rw [List.getElem?_eq_getElem hi]
  have e : l[i].name = nm := by simpa using hp
  congr 1
  rw [← e]
theorem idxS_none {l : List SyR} {nm : ByteArray} (h : idxS l nm = none) : ∀ r ∈ l, r.name ≠ nm := by
  unfold idxS at h
  rw [List.findIdx?_eq_none_iff] at h
  intro r hr e
  have := h r hr
  simp [e] at this
theorem FitS.add {l : List SyR} {n : Nat} (h : FitS l n) (nm : ByteArray) : FitS (addS l nm) (n + 1) := by
  unfold addS
  cases e : idxS l nm with
  | none =>
    refine ⟨by simp; exact h.len, fun r hr => ?_⟩
    simp at hr
    rcases hr with hr | rfl
    · have := h.uses r hr; omega
    · simp; omega
  | some i =>
    obtain ⟨u, hu⟩ := idxS_some e
    simp only [hu, Option.map_some, Option.getD_some]
    have h0 := h.uses _ (List.mem_of_getElem? hu)
    simp only at h0
    refine ⟨by have := h.len; simp; omega, fun r hr => ?_⟩
    rcases List.mem_or_eq_of_mem_set hr with hr | rfl
    · have := h.uses r hr; omega
    · simp; omega
theorem sym25_c (nm : ByteArray) (hn : nm.size ≤ maxLen) (w : World) (S : Nat → Prop) (G B : Nat) (mk : Bool) (l : List SyR) (n : Nat) (hf : FitS l n) (hl : n < 1048576) (h : PS w S G B mk l) (hI : Inv w) (hG : 3 ≤ G) :
    Calls Tryd.prog 30 #[.pointer (some ⟨B, 0, none⟩), .agg #[.int .i32 0], .string nm] w (SymB w S G B mk (numS l nm) (addS l nm)) := by
  obtain ⟨m1, m2, v1, v2, D, h⟩ := h
  have hlen := hf.len
  unfold numS addS
  cases e : idxS l nm with
  | none =>
    have hno := idxS_none e
    cases mk
    · exact sym25_new_false nm hn w S G B m1 m2 v1 v2 l D (by omega) hno h hI hG
    · exact sym25_new_true nm hn w S G B m1 m2 v1 v2 l D (by omega) hno h hI hG
  | some i =>
    obtain ⟨u, hu⟩ := idxS_some e
    simp only [hu, Option.map_some, Option.getD_some]
    have h0 := hf.uses _ (List.mem_of_getElem? hu)
    simp only at h0
    cases mk
    · exact sym25_old_false nm hn w S G B m1 m2 v1 v2 l D (by omega) i u hu (by omega) (by omega) h hI hG
    · exact sym25_old_true nm hn w S G B m1 m2 v1 v2 l D (by omega) i u hu (by omega) (by omega) h hI hG
end Go.Proofs.YtpjbhbbhkhfiaaaDoor
