/- FnFlattenMatchesStreamModel: the state of flattening while a compound's subclass selectors are visited. -/
import Derived.Test.YtjigljpodkfchadFlm
set_option linter.unusedVariables false
set_option linter.unusedSimpArgs false
namespace Go.Proofs.Ytjigljpodkfchad
open Go.RowKit
set_option maxRecDepth 100000
set_option maxHeartbeats 40000000
/-- the compound that is visited: the interval of its blocks, its row, the marks of its subs; F: later ones' blocks -/
structure Vis (M lo hi : Nat) (F : Nat → Prop) (rv : Value) (m : Nat) (ms : Nat → Nat) : Prop where
  hi_le : hi ≤ M
  row : ∀ b, Ob rv b → lo ≤ b ∧ b < hi
  mono : ∀ j, ms j ≤ ms (j + 1)
  lo_le : lo ≤ ms 0
  top : ms m ≤ hi
  fut : ∀ b, F b → b < M ∧ (b < lo ∨ hi ≤ b)
theorem Vis.le {M lo hi : Nat} {F : Nat → Prop} {rv : Value} {m : Nat} {ms : Nat → Nat} (h : Vis M lo hi F rv m ms) {j : Nat} (hj : j < m) : lo ≤ ms j ∧ ms j ≤ ms (j + 1) ∧ ms (j + 1) ≤ hi := by
  have h1 := mono_le h.mono (Nat.zero_le j)
  have h2 := mono_le h.mono (show j + 1 ≤ m from hj)
  exact ⟨Nat.le_trans h.lo_le h1, h.mono j, Nat.le_trans h2 h.top⟩
/-- what the compound under way avoids -/
def AvO (hi : Nat) (F : Nat → Prop) (v : Value) (P μ : Nat) : Nat → Prop := fun b => Ob v b ∨ b = P ∨ (μ ≤ b ∧ b < hi) ∨ F b
/-- what the collected ones avoid, their own row apart -/
def AcO (hi : Nat) (F : Nat → Prop) (sv : Value) (P μ : Nat) : Nat → Prop := fun b => Ob sv b ∨ b = P ∨ (μ ≤ b ∧ b < hi) ∨ F b
def SvC (M lo : Nat) (rv sv : Value) (μ : Nat) : Prop := ∀ b, Ob sv b → M ≤ b ∨ (lo ≤ b ∧ b < μ ∧ ¬ Ob rv b)
def InS (M lo hi : Nat) (F : Nat → Prop) (rv : Value) (μ P : Nat) (w : World) (v : Value) (n : Nat) (rs : List MR) (sv : Value) (st : St) : Prop := AccX M (AcO hi F sv P μ) w v n rs st.1 ∧ Cur (AvO hi F v P μ) w P sv st.2 ∧ SvC M lo rv sv μ ∧ M ≤ P
theorem Cur.wide {O O' : Nat → Prop} {w : World} {P : Nat} {sv : Value} {k : Ck SK} (h : Cur O w P sv k) (hP : O' P) (ho : ∀ b, b < w.heap.size → O' b → O b) : Cur O' w P sv k := by
  obtain ⟨tv, nv, n, h1, h2, h3, h4⟩ := h
  exact ⟨tv, nv, n, h1, h2, hP, h4.keep G1.keep (S := fun _ => False) (Kp.refl _) (fun _ _ q => q.elim) ho⟩
theorem Cur.keep {O S : Nat → Prop} {w w' : World} {P : Nat} {sv : Value} {k : Ck SK} (h : Cur O w P sv k) (hk : Kp S w w') (hP : ¬ S P) (hs : ∀ b, b < w.heap.size → S b → O b) : Cur O w' P sv k := by
  obtain ⟨tv, nv, n, h1, h2, h3, h4⟩ := h
  exact ⟨tv, nv, n, h1.keep (Kc.of_kp hk (fun _ _ q => q)) hP, room_kept h2 hk hP, h3, h4.keep G1.keep hk hs (fun _ _ q => q)⟩
theorem InS.shift {M lo hi : Nat} {F : Nat → Prop} {rv : Value} {μ μ' P : Nat} {w : World} {v : Value} {n : Nat} {rs : List MR} {sv : Value} {st : St} (h : InS M lo hi F rv μ P w v n rs sv st) (hμ : μ ≤ μ') : InS M lo hi F rv μ' P w v n rs sv st := by
  obtain ⟨h1, h2, h3, h4⟩ := h
  refine ⟨h1.keep (S := fun _ => False) (Kp.refl _) (fun _ _ q => q.elim) (fun b _ q => ?_), h2.wide (.inr (.inl rfl)) (fun b _ q => ?_), fun b q => ?_, h4⟩
  · rcases q with q | q | q | q
    · exact .inl q
    · exact .inr (.inl q)
    · exact .inr (.inr (.inl ⟨by omega, q.2⟩))
    · exact .inr (.inr (.inr q))
  · rcases q with q | q | q | q
    · exact .inl q
    · exact .inr (.inl q)
    · exact .inr (.inr (.inl ⟨by omega, q.2⟩))
    · exact .inr (.inr (.inr q))
  · rcases h3 b q with q | q
    · exact .inl q
    · exact .inr ⟨q.1, by omega, q.2.2⟩
theorem InS.after {M lo hi : Nat} {F : Nat → Prop} {rv : Value} {μ P : Nat} {w w' : World} {v : Value} {n : Nat} {rs : List MR} {sv : Value} {st : St} (h : InS M lo hi F rv μ P w v n rs sv st) (hb : Below w.heap.size w w') : InS M lo hi F rv μ P w' v n rs sv st := by
  obtain ⟨h1, h2, h3, h4⟩ := h
  exact ⟨h1.keep (S := fun _ => False) (Kp.of hb) (fun _ _ q => q.elim) (fun _ _ q => q), h2.keep (S := fun _ => False) (Kp.of hb) (fun q => q) (fun _ _ q => q.elim), h3, h4⟩
/-- one subclass selector joins the compound under way -/
theorem InS.add {M lo hi : Nat} {F : Nat → Prop} {rv : Value} {m : Nat} {ms : Nat → Nat} (hV : Vis M lo hi F rv m ms) {j : Nat} (hj : j < m) {P : Nat} {w w7 w8 w9 : World} {v : Value} {n k nn : Nat} {rs : List MR} {acc : List (Ck SK)} {tv sv sv' nv : Value} {cb : Int} {ty : Option ByteArray} {ls : List (SubR SK)} {s : SubR SK} (hA : AccX M (AcO hi F sv P (ms j)) w v n rs acc) (hMw : M ≤ w.heap.size) (hS : Seg w P 0 [tv, sv, nv, .int .i32 0, .int .u8 cb, .bool false]) (hR : Room w P 6) (hMP : M ≤ P)
    (h1 : TyR (fun b => Ob sv b ∨ AvO hi F v P (ms j) b) w tv ty) (h2 : NnR (fun b => Ob sv b ∨ AvO hi F v P (ms j) b) w nv nn) (h3 : ls.length = k) (h4 : w.ownsRow 0 111 3 sv k (flat SubR.cells ls)) (h5 : ∀ b, Ob sv b → ¬ AvO hi F v P (ms j) b) (h6 : ∀ s ∈ ls, G1 (fun b => Ob sv b ∨ AvO hi F v P (ms j) b) w s) (hsv : SvC M lo rv sv (ms j))
    (hs : G1 (fun b => Ob rv b ∨ b < ms j ∨ ms (j + 1) ≤ b) w s) (hb : Below w.heap.size w w7) (hO : w8.ownsRow 0 111 3 sv' (k + 1) (flat SubR.cells ls ++ s.cells)) (hk : Kp (Ob sv) w7 w8) (hn : ∀ b, Ob sv' b → Ob sv b ∨ w7.heap.size ≤ b) (hw9 : w9 = w8.setCell ⟨P, 1, none⟩ sv') : InS M lo hi F rv (ms (j + 1)) P w9 v n rs sv' (acc, ⟨cb, ty, nn, ls.map SubR.k ++ [s.k]⟩) ∧ Kp (fun b => b = P ∨ Ob sv b) w w9 := by
  obtain ⟨l1, l2, l3⟩ := hV.le hj
  have hM := hV.hi_le
  have hPl : P < w.heap.size := hR.lt (by omega)
  have z7 := hb.size
  have z8 := hk.size
  have hvM : ∀ b, Ob v b → M ≤ b ∧ b < w.heap.size := fun b q => hA.1.lt b q
  have hFM : ∀ b, F b → b < M := fun b q => (hV.fut b q).1
  have hov : ∀ b, AvO hi F v P (ms (j + 1)) b → AvO hi F v P (ms j) b := fun b q => by
    rcases q with q | q | q | q
    · exact .inl q
    · exact .inr (.inl q)
    · exact .inr (.inr (.inl ⟨by omega, q.2⟩))
    · exact .inr (.inr (.inr q))
  have hOl : ∀ b, AvO hi F v P (ms (j + 1)) b → b < w.heap.size := fun b q => by
    rcases q with q | q | q | q
    · exact (hvM b q).2
    · omega
    · omega
    · have := hFM b q; omega
  have hPn : ¬ Ob sv P := fun q => h5 P q (.inr (.inl rfl))
  have hs7 : G1 (fun b => Ob sv b ∨ AvO hi F v P (ms (j + 1)) b) w7 s := G1.keep _ _ (fun _ => False) _ _ _ hs (Kp.of hb) (fun _ _ q => q.elim) (fun b _ q => by
    rcases q with q | q | q | q | q
    · rcases hsv b q with q | q
      · right; right; omega
      · right; left; omega
    · have := (hvM b q).1; right; right; omega
    · right; right; omega
    · right; right; exact q.1
    · have := (hV.fut b q).2; rcases this with q | q
      · right; left; omega
      · right; right; omega)
  have hst := RCo.step (nn := nn) (s := s) (O := AvO hi F v P (ms (j + 1))) G1.keep (h1.wide (fun b _ q => q.imp id (hov b))) (h2.wide (fun b _ q => q.imp id (hov b))) h3 h4 (fun b q e => h5 b q (hov b e)) (fun x hx => G1.keep.wide (h6 x hx) (fun b _ q => q.imp id (hov b))) hb hs7 hO hk hn (fun b q => by have := hOl b q; omega)
  obtain ⟨t1, t2, t3⟩ := put1z (w := w8) (W' := w9) sv' (room_kept (hR.after hb) hk hPn) ((hS.after hb).keep (Kc.of_kp hk (fun _ _ q => q)) hPn) hw9
  have hKall : Kp (fun b => b = P ∨ Ob sv b) w w9 := ((Kp.of hb).trans (hk.wide (fun _ q => .inr q))).trans (t3.wide (fun _ q => .inl q))
  refine ⟨⟨hA.keep hKall (fun b _ q => by rcases q with q | q; exact .inr (.inl q); exact .inl q) (fun b hb2 q => ?_), ⟨tv, nv, k + 1, t1, t2, .inr (.inl rfl), hst.keep G1.keep t3 (fun b _ e => .inr (.inl e)) (fun _ _ q => q)⟩, fun b q => ?_, hMP⟩, hKall⟩
  · rcases q with q | q | q | q
    · rcases hn b q with q | q
      · exact .inl q
      · omega
    · exact .inr (.inl q)
    · exact .inr (.inr (.inl ⟨by omega, q.2⟩))
    · exact .inr (.inr (.inr q))
  · rcases hn b q with q | q
    · rcases hsv b q with q | q
      · exact .inl q
      · exact .inr ⟨q.1, by omega, q.2.2⟩
    · left; omega
end Go.Proofs.Ytjigljpodkfchad
