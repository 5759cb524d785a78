/- FnNameTokenReadsCurrentToken: the text, the tokens and the offsets. -/
import Derived.Test.YtbakdeoeceajeaaDoorNt1
import Derived.Laws.IdiomStrings
import Derived.BigRegion
set_option linter.unusedVariables false
set_option linter.unusedSimpArgs false
namespace Go.Proofs.YtbakdeoeceajeaaDoor
open Go.RowKit
def idB (c : Int) : Bool := decide (c % 14 = 0 ∨ c % 14 = 12 ∨ c % 14 = 13)
set_option maxRecDepth 100000 in
set_option maxHeartbeats 4000000 in
theorem idb_c (c : Int) (w : World) (h0 : 0 ≤ c) (h1 : c ≤ 255) : Calls Tryd.prog 12 #[.int .u8 c] w (Gv (.bool (idB c)) w) := by
  rcases c14 c with h | h | h | h | h | h | h | h | h | h | h | h | h | h
  all_goals
    unfold idB
    rw [h]
    go_enter Tryd.func12, Tryd.ntmps12
    go_wp2
    go_ret
    exact ⟨rfl, Below.refl _ _⟩
def SomeB (w : World) (e : Ending) (w' : World) : Prop := ∃ b : Bool, Gv (.bool b) w e w'
set_option maxRecDepth 100000 in
set_option maxHeartbeats 4000000 in
theorem reach_c (A : Option Addr) (n c : Nat) (f : Nat → Int) (w : World) (hn : n ≤ 4096) (h : Row .u8 w A n f) (hf : ∀ i, i < n → 0 ≤ f i ∧ f i ≤ 255) : Calls Tryd.prog 5 #[.slice A n c] w (SomeB w) := by
  have H := Lib.hid h
  have HF := Lib.hid hf
  clear h hf
  go_enter Tryd.func5, Tryd.ntmps5
  go_wp2
  go_loopw [3] (fun v wr => ∃ j : Nat, (j + 1 ≤ n ∨ j = 0) ∧ v = .int .i64 ((j : Int) + 1) ∧ Below w.heap.size w wr) (fun v _ => n - (intOf v).toNat)
  case atStart => exact ⟨0, .inr rfl, rfl, Below.refl _ _⟩
  case round =>
    obtain ⟨j, hj, rfl, hB⟩ := hrel
    replace hB := Lib.hid hB
    replace hj := Lib.hid hj
    have j0 : (0 : Int) ≤ j := by omega
    by_cases hlt : j + 1 < n
    · have j1 : (j : Int) + 1 < n := by omega
      have j2 : (j : Int) < n := by omega
      obtain ⟨x, rfl, d1⟩ := (H.out.after hB.out) (j + 1) hlt
      obtain ⟨x', hx', d0⟩ := (H.out.after hB.out) j (by omega)
      cases hx'
      have e1 : x.add (j + 1) = ⟨x.block, x.off + (j + 1), none⟩ := by simp [Addr.add]
      rw [e1] at d1
      clear e1
      have q0 := (HF.out j (by omega)).1
      have q1 := (HF.out j (by omega)).2
      have p0 := (HF.out (j + 1) hlt).1
      have p1 := (HF.out (j + 1) hlt).2
      obtain ⟨a, ha⟩ : ∃ a, a = f j := ⟨_, rfl⟩
      obtain ⟨b, hb⟩ : ∃ b, b = f (j + 1) := ⟨_, rfl⟩
      rw [← ha] at d0 q0 q1
      rw [← hb] at d1 p0 p1
      clear ha hb
      have Ca : Hid (∀ w, Calls Tryd.prog 12 #[.int .u8 a] w (Gv (.bool (idB a)) w)) := Lib.hid (fun w => idb_c a w q0 q1)
      have Cb : Hid (∀ w, Calls Tryd.prog 12 #[.int .u8 b] w (Gv (.bool (idB b)) w)) := Lib.hid (fun w => idb_c b w p0 p1)
      rcases Bool.eq_false_or_eq_true (idB a) with ea | ea <;> rcases Bool.eq_false_or_eq_true (idB b) with eb | eb <;> rcases Decidable.em (a % 14 = 4) with fa | fa <;> rcases Decidable.em (b % 14 = 4) with fb | fb
      all_goals
        rw [ea] at Ca
        rw [eb] at Cb
        go_wp2_with (go_at_call 12; (with_reducible refine (by first | exact Ca.out _ | exact Cb.out _ : Calls _ _ _ _ _).mono ?_); rintro e w2 ⟨rfl, b2⟩; replace hB := Lib.hid (hB.out.trans (b2.mono hB.out.size)); replace d0 := ac b2 d0; replace d1 := ac b2 d1; clear b2)
        first
        | (go_ret; exact ⟨_, rfl, hB.out⟩)
        | (go_roundw
           case rel => exact ⟨j + 1, .inl (by omega), by go_num, hB.out⟩
           case measure => simp [intOf]; omega)
    · go_wp2
      go_ret
      exact ⟨_, rfl, hB.out⟩
end Go.Proofs.YtbakdeoeceajeaaDoor
