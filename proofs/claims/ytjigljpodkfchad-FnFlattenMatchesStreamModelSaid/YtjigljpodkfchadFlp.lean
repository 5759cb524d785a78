/- FnFlattenMatchesStreamModel: a compound begins and ends; what is kept meanwhile. -/
import Derived.Test.YtjigljpodkfchadFlo
set_option linter.unusedVariables false
set_option linter.unusedSimpArgs false
namespace Go.Proofs.Ytjigljpodkfchad
open Go.RowKit
set_option maxRecDepth 100000
set_option maxHeartbeats 40000000
/-- where a round may write, ahead of mark μ -/
def WrS (M lo : Nat) (rv : Value) (μ : Nat) : Nat → Prop := fun b => M ≤ b ∨ (lo ≤ b ∧ b < μ ∧ ¬ Ob rv b)
theorem WrS.mono {M lo : Nat} {rv : Value} {μ μ' : Nat} (h : μ ≤ μ') : ∀ b, WrS M lo rv μ b → WrS M lo rv μ' b := fun b q => q.imp id (fun q => ⟨q.1, by omega, q.2.2⟩)
theorem InS.wr {M lo hi : Nat} {F : Nat → Prop} {rv : Value} {μ P : Nat} {w : World} {v : Value} {n : Nat} {rs : List MR} {sv : Value} {st : St} (h : InS M lo hi F rv μ P w v n rs sv st) : ∀ b, (b = P ∨ Ob sv b ∨ Ob v b) → WrS M lo rv μ b := fun b q => by
  obtain ⟨h1, h2, h3, h4⟩ := h
  rcases q with q | q | q
  · exact .inl (by omega)
  · exact h3 b q
  · exact .inl (h1.1.lt b q).1
/-- a compound begins -/
theorem InS.start {M lo hi : Nat} {F Fo : Nat → Prop} {rv : Value} {m : Nat} {ms : Nat → Nat} (hV : Vis M lo hi F rv m ms) {w W : World} {v : Value} {n : Nat} {rs : List MR} {acc : List (Ck SK)} (hA : AccX M Fo w v n rs acc) (hFo : ∀ b, (lo ≤ b ∧ b < hi) ∨ F b → Fo b) (hb : Below w.heap.size w W) (hM : M ≤ w.heap.size) {P : Nat} (hP : w.heap.size ≤ P) {sv tv nv : Value} {x : Ck SK} (hsv : ∀ b, Ob sv b → w.heap.size ≤ b) (hPs : ¬ Ob sv P) (hown : W.ownsRow 0 111 3 sv 0 []) (hS : Seg W P 0 [tv, sv, nv, .int .i32 0, .int .u8 x.cb, .bool false]) (hR : Room W P 6) (hT : TyR (fun b => b < lo ∨ hi ≤ b ∨ ms 0 ≤ b) w tv x.ty) (hN : NnR (fun b => b < lo ∨ hi ≤ b ∨ ms 0 ≤ b) w nv x.nn) : InS M lo hi F rv (ms 0) P W v n rs sv (acc, newC x) := by
  have hMh := hV.hi_le
  have hl := hV.lo_le
  have hav : ∀ b, b < w.heap.size → (Ob sv b ∨ AvO hi F v P (ms 0) b) → (b < lo ∨ hi ≤ b ∨ ms 0 ≤ b) := fun b hb2 q => by
    rcases q with q | q | q | q | q
    · have := hsv b q; omega
    · have := (hA.1.lt b q).1; omega
    · omega
    · omega
    · have := (hV.fut b q).2; omega
  refine ⟨hA.keep (S := fun _ => False) (Kp.of hb) (fun _ _ q => q.elim) (fun b hb2 q => ?_), ⟨tv, nv, 0, hS, hR, .inr (.inl rfl), hT.keep (S := fun _ => False) (Kp.of hb) (fun _ _ q => q.elim) hav, hN.keep (S := fun _ => False) (Kp.of hb) (fun _ _ q => q.elim) hav, [], rfl, hown, fun b q e => ?_, (fun s hs => by cases hs), rfl⟩, fun b q => ?_, by omega⟩
  · rcases q with q | q | q | q
    · have := hsv b q; omega
    · omega
    · exact hFo b (.inl (by omega))
    · exact hFo b (.inr q)
  · have h1 := hsv b q
    rcases e with e | e | e | e
    · have := (hA.1.lt b e).2; omega
    · subst e; exact hPs q
    · omega
    · have := (hV.fut b e).1; omega
  · have := hsv b q
    left; omega
/-- a compound ends that is empty -/
theorem InS.stop0 {M lo hi : Nat} {F : Nat → Prop} {rv : Value} {μ P : Nat} {w : World} {v : Value} {n : Nat} {rs : List MR} {sv : Value} {st : St} (h : InS M lo hi F rv μ P w v n rs sv st) : AccX M F w v n rs st.1 := h.1.keep (S := fun _ => False) (Kp.refl _) (fun _ _ q => q.elim) (fun b _ q => .inr (.inr (.inr q)))
theorem InS.stop {M lo hi : Nat} {F : Nat → Prop} {rv : Value} {μ P : Nat} {w : World} {v : Value} {n : Nat} {rs : List MR} {sv : Value} {st : St} (h : InS M lo hi F rv μ P w v n rs sv st) : ∃ tv nv, Seg w P 0 [tv, sv, nv, .int .i32 0, .int .u8 st.2.cb, .bool false] ∧ RCk G1 (fun b => Ob v b ∨ F b) w ⟨tv, sv, nv, st.2.cb⟩ st.2 := by
  obtain ⟨tv, nv, h1, -, h2⟩ := h.2.1.rck
  exact ⟨tv, nv, h1, RCk.wide G1.keep h2 (fun b _ q => by
    rcases q with q | q
    · exact .inl q
    · exact .inr (.inr (.inr q)))⟩
/-- what is not written is kept -/
theorem WrS.own {M lo hi : Nat} {F : Nat → Prop} {rv : Value} {m : Nat} {ms : Nat → Nat} (hV : Vis M lo hi F rv m ms) {μ : Nat} {w W : World} (hk : Kp (WrS M lo rv μ) w W) {xs : List Value} {k : Nat} (h : w.ownsRow 0 111 3 rv k xs) : W.ownsRow 0 111 3 rv k xs := hk.own h (fun b q e => by
  have h1 := hV.row b q
  have h2 := hV.hi_le
  rcases e with e | e
  · omega
  · exact e.2.2 q)
theorem WrS.sub {M lo hi : Nat} {F : Nat → Prop} {rv : Value} {m : Nat} {ms : Nat → Nat} (hV : Vis M lo hi F rv m ms) {j : Nat} (hj : j < m) {w W : World} (hk : Kp (WrS M lo rv (ms j)) w W) {s : SubR SK} (h : G1 (fun b => Ob rv b ∨ b < ms j ∨ ms (j + 1) ≤ b) w s) : G1 (fun b => Ob rv b ∨ b < ms j ∨ ms (j + 1) ≤ b) W s := G1.keep _ _ _ _ _ _ h hk (fun b _ q => by
  obtain ⟨l1, l2, l3⟩ := hV.le hj
  have := hV.hi_le
  rcases q with q | q
  · right; right; omega
  · right; left; exact q.2.1) (fun _ _ q => q)
theorem WrS.later {M lo hi : Nat} {F : Nat → Prop} {rv : Value} {m : Nat} {ms : Nat → Nat} (hV : Vis M lo hi F rv m ms) {μ : Nat} (hμ : μ ≤ hi) {w W : World} (hk : Kp (WrS M lo rv μ) w W) {l2 h2 : Nat} {r : MR} {x : Ck SK} (h : RCk1 l2 h2 w r x) (hl : hi ≤ l2) (hh : h2 ≤ M) : RCk1 l2 h2 W r x := h.keep hk (fun b _ q => by
  rcases q with q | q
  · right; omega
  · left; omega)
end Go.Proofs.Ytjigljpodkfchad
