/- FnFlattenMatchesStreamModel: zzBuildComplex. -/
import Derived.Test.YtjigljpodkfchadFlf
set_option linter.unusedVariables false
set_option linter.unusedSimpArgs false
namespace Go.Proofs.Ytjigljpodkfchad
open Go.RowKit
set_option maxRecDepth 100000
set_option maxHeartbeats 40000000
theorem mono_le {ms : Nat → Nat} (h : ∀ j, ms j ≤ ms (j + 1)) {i j : Nat} (hij : i ≤ j) : ms i ≤ ms j := by
  obtain ⟨d, rfl⟩ : ∃ d, j = i + d := ⟨j - i, by omega⟩
  clear hij
  induction d with
  | zero => exact Nat.le_refl _
  | succ d ih => exact Nat.le_trans ih (h (i + d))
/-- an outer compound; its blocks lie from lo to hi, those of its subclass selectors from mark to mark -/
def RCk1 (lo hi : Nat) (w : World) (r : MR) (k : Ck SK) : Prop := r.cb = k.cb ∧ TyR (fun b => b < lo ∨ hi ≤ b) w r.tv k.ty ∧ NnR (fun b => b < lo ∨ hi ≤ b) w r.nv k.nn ∧ ∃ (ls : List (SubR SK)) (ms : Nat → Nat), w.ownsRow 0 111 3 r.sv ls.length (flat SubR.cells ls) ∧ (∀ b, Ob r.sv b → lo ≤ b ∧ b < hi) ∧ (∀ j, ms j ≤ ms (j + 1)) ∧ lo ≤ ms 0 ∧ ms ls.length ≤ hi ∧ (∀ (j : Nat) s, ls[j]? = some s → G1 (fun b => Ob r.sv b ∨ b < ms j ∨ ms (j + 1) ≤ b) w s) ∧ ls.map SubR.k = k.ks ∧ TyR (fun b => b < lo ∨ hi ≤ b ∨ ms 0 ≤ b) w r.tv k.ty ∧ NnR (fun b => b < lo ∨ hi ≤ b ∨ ms 0 ≤ b) w r.nv k.nn
theorem RCk1.keep {lo hi : Nat} {S : Nat → Prop} {w w' : World} {r : MR} {k : Ck SK} (h : RCk1 lo hi w r k) (hk : Kp S w w') (hs : ∀ b, b < w.heap.size → S b → b < lo ∨ hi ≤ b) : RCk1 lo hi w' r k := by
  obtain ⟨h1, h2, h3, ls, ms, h4, h5, h6, h7, h8, h9, h10, h11, h12⟩ := h
  have hs3 : ∀ b, b < w.heap.size → S b → b < lo ∨ hi ≤ b ∨ ms 0 ≤ b := fun b hb q => (hs b hb q).imp id .inl
  refine ⟨h1, h2.keep hk hs (fun _ _ q => q), h3.keep hk hs (fun _ _ q => q), ls, ms, hk.own h4 (fun b q e => by have := hs b (h4.lt b q).2 e; have := h5 b q; omega), h5, h6, h7, h8, fun j s hj => ?_, h10, h11.keep hk hs3 (fun _ _ q => q), h12.keep hk hs3 (fun _ _ q => q)⟩
  have hjl := (List.getElem?_eq_some_iff.1 hj).1
  have m1 := mono_le h6 (Nat.zero_le j)
  have m2 := mono_le h6 (show j + 1 ≤ ls.length from hjl)
  exact G1.keep _ _ _ _ _ _ (h9 j s hj) hk (fun b hb q => by rcases hs b hb q with q | q; (right; left; omega); (right; right; omega)) (fun _ _ q => q)
/-- .. that is being made -/
def RCo1 (lo : Nat) (O : Nat → Prop) (w : World) (tv sv nv : Value) (n : Nat) (ty : Option ByteArray) (nn : Nat) (ks : List SK) : Prop := TyR (fun b => Ob sv b ∨ O b) w tv ty ∧ NnR (fun b => Ob sv b ∨ O b) w nv nn ∧ ∃ (ls : List (SubR SK)) (ms : Nat → Nat), ls.length = n ∧ w.ownsRow lo 111 3 sv n (flat SubR.cells ls) ∧ (∀ b, Ob sv b → ¬ O b) ∧ (∀ (j : Nat) s, ls[j]? = some s → G1 (fun b => Ob sv b ∨ O b ∨ b < ms j ∨ ms (j + 1) ≤ b) w s) ∧ (∀ j, ms j ≤ ms (j + 1)) ∧ lo ≤ ms 0 ∧ ms n ≤ w.heap.size ∧ ls.map SubR.k = ks ∧ TyR (fun b => Ob sv b ∨ O b ∨ ms 0 ≤ b) w tv ty ∧ NnR (fun b => Ob sv b ∨ O b ∨ ms 0 ≤ b) w nv nn
theorem RCo1.keep {lo : Nat} {O S : Nat → Prop} {w w' : World} {tv sv nv : Value} {n : Nat} {ty : Option ByteArray} {nn : Nat} {ks : List SK} (h : RCo1 lo O w tv sv nv n ty nn ks) (hk : Kp S w w') (hs : ∀ b, b < w.heap.size → S b → O b) : RCo1 lo O w' tv sv nv n ty nn ks := by
  obtain ⟨h1, h2, ls, ms, h3, h4, h5, h6, h7, h8, h9, h10, h11, h12⟩ := h
  have hs2 : ∀ b, b < w.heap.size → S b → Ob sv b ∨ O b := fun b hb q => .inr (hs b hb q)
  exact ⟨h1.keep hk hs2 (fun _ _ q => q), h2.keep hk hs2 (fun _ _ q => q), ls, ms, h3, hk.own h4 (fun b q e => h5 b q (hs b (h4.lt b q).2 e)), h5, fun j s hj => G1.keep _ _ _ _ _ _ (h6 j s hj) hk (fun b hb q => .inr (.inl (hs b hb q))) (fun _ _ q => q), h7, h8, Nat.le_trans h9 hk.size, h10, h11.keep hk (fun b hb q => .inr (.inl (hs b hb q))) (fun _ _ q => q), h12.keep hk (fun b hb q => .inr (.inl (hs b hb q))) (fun _ _ q => q)⟩
theorem RCo1.step {lo : Nat} {O : Nat → Prop} {w w7 w8 : World} {tv sv sv' nv : Value} {n : Nat} {ty : Option ByteArray} {nn : Nat} {ls : List (SubR SK)} {ms : Nat → Nat} {s : SubR SK} (h1 : TyR (fun b => Ob sv b ∨ O b) w tv ty) (h2 : NnR (fun b => Ob sv b ∨ O b) w nv nn) (h3 : ls.length = n) (h4 : w.ownsRow lo 111 3 sv n (flat SubR.cells ls)) (h5 : ∀ b, Ob sv b → ¬ O b) (h6 : ∀ (j : Nat) s, ls[j]? = some s → G1 (fun b => Ob sv b ∨ O b ∨ b < ms j ∨ ms (j + 1) ≤ b) w s) (h7 : ∀ j, ms j ≤ ms (j + 1)) (h8 : lo ≤ ms 0) (h9 : ms n ≤ w.heap.size) (h11 : TyR (fun b => Ob sv b ∨ O b ∨ ms 0 ≤ b) w tv ty) (h12 : NnR (fun b => Ob sv b ∨ O b ∨ ms 0 ≤ b) w nv nn) (hb : Below w.heap.size w w7) (hs : G1 (fun b => b < w.heap.size) w7 s) (hO : w8.ownsRow lo 111 3 sv' (n + 1) (flat SubR.cells ls ++ s.cells)) (hk : Kp (Ob sv) w7 w8) (hn : ∀ b, Ob sv' b → Ob sv b ∨ w7.heap.size ≤ b) (hOl : ∀ b, O b → b < w.heap.size) : RCo1 lo O w8 tv sv' nv (n + 1) ty nn (ls.map SubR.k ++ [s.k]) := by
  have z1 := hb.size
  have z2 := hk.size
  have hs2 : ∀ b, b < w7.heap.size → Ob sv b → Ob sv b ∨ O b := fun b _ q => .inl q
  have ho2 : ∀ b, b < w7.heap.size → Ob sv' b ∨ O b → Ob sv b ∨ O b := fun b hb2 q => by
    rcases q with q | q
    · rcases hn b q with q | q
      · exact .inl q
      · omega
    · exact .inr q
  have ho3 : ∀ b, b < w7.heap.size → (Ob sv' b ∨ O b ∨ mup ms n w8.heap.size 0 ≤ b) → (Ob sv b ∨ O b ∨ ms 0 ≤ b) := fun b hb2 q => by
    rw [mup_le (Nat.zero_le _)] at q
    rcases q with q | q | q
    · rcases hn b q with q | q
      · exact .inl q
      · omega
    · exact .inr (.inl q)
    · exact .inr (.inr q)
  have f1 : ∀ (X : Nat → Prop) b, b < w.heap.size → (fun _ => False) b → X b := fun _ _ _ q => q.elim
  have f2 : ∀ b, b < w.heap.size → Ob sv b ∨ O b → Ob sv b ∨ O b := fun _ _ q => q
  refine ⟨(h1.keep (Kp.of hb) (f1 _) f2).keep hk hs2 ho2, (h2.keep (Kp.of hb) (f1 _) f2).keep hk hs2 ho2, ls ++ [s], mup ms n w8.heap.size, by simp [h3], by rw [← flat_add]; exact hO, fun b q e => ?_, fun j x hx => ?_, fun j => ?_, by rw [mup_le (Nat.zero_le _)]; exact h8, by rw [mup_gt (by omega)]; exact Nat.le_refl _, by simp, (h11.keep (Kp.of hb) (f1 _) (fun _ _ q => q)).keep hk (fun b _ q => .inl q) ho3, (h12.keep (Kp.of hb) (f1 _) (fun _ _ q => q)).keep hk (fun b _ q => .inl q) ho3⟩
  · rcases hn b q with q | q
    · exact h5 b q e
    · have := hOl b e; omega
  · by_cases hj : j < n
    · rw [List.getElem?_append_left (by omega)] at hx
      rw [mup_le (by omega), mup_le (by omega)]
      have h11 := G1.keep _ (fun b => Ob sv b ∨ O b ∨ b < ms j ∨ ms (j + 1) ≤ b) _ _ _ _ (h6 j x hx) (Kp.of hb) (f1 _) (fun _ _ q => q)
      refine G1.keep _ _ _ _ _ _ h11 hk (fun b _ q => .inl q) (fun b hb2 q => ?_)
      rcases q with q | q
      · rcases hn b q with q | q
        · exact .inl q
        · omega
      · exact .inr q
    · have hjn : j = n := by have := (List.getElem?_eq_some_iff.1 hx).1; simp at this; omega
      subst hjn
      rw [List.getElem?_append_right (by omega), h3, Nat.sub_self] at hx
      injection hx with hx
      subst hx
      rw [mup_le (Nat.le_refl _), mup_gt (by omega)]
      refine G1.keep _ _ _ _ _ _ hs hk (fun b _ q => (h4.lt b q).2) (fun b hb2 q => ?_)
      rcases q with q | q | q | q
      · rcases hn b q with q | q
        · exact (h4.lt b q).2
        · omega
      · exact hOl b q
      · show b < w.heap.size; omega
      · omega
  · by_cases hj : j + 1 ≤ n
    · rw [mup_le (by omega), mup_le hj]; exact h7 j
    · by_cases hj2 : j ≤ n
      · rw [mup_le hj2, mup_gt hj]; have := mono_le h7 hj2; omega
      · rw [mup_gt hj2, mup_gt (by omega)]; exact Nat.le_refl _
theorem RCo1.shut {lo lo' : Nat} {O : Nat → Prop} {w : World} {tv sv nv : Value} {n : Nat} {ty : Option ByteArray} {nn : Nat} {ks : List SK} {cb : Int} (h : RCo1 lo' O w tv sv nv n ty nn ks) (hlo : lo ≤ lo') (ho : ∀ b, b < lo → O b) : RCk1 lo w.heap.size w ⟨tv, sv, nv, cb⟩ ⟨cb, ty, nn, ks⟩ := by
  obtain ⟨h1, h2, ls, ms, h3, h4, h5, h6, h7, h8, h9, h10, h11, h12⟩ := h
  have ho2 : ∀ b, b < w.heap.size → (b < lo ∨ w.heap.size ≤ b) → Ob sv b ∨ O b := fun b hb q => .inr (ho b (by omega))
  have ho3 : ∀ b, b < w.heap.size → (b < lo ∨ w.heap.size ≤ b ∨ ms 0 ≤ b) → (Ob sv b ∨ O b ∨ ms 0 ≤ b) := fun b hb q => by
    rcases q with q | q | q
    · exact .inr (.inl (ho b q))
    · omega
    · exact .inr (.inr q)
  subst h3
  exact ⟨rfl, h1.wide ho2, h2.wide ho2, ls, ms, own_base h4 (Nat.zero_le _), fun b q => ⟨by have := (h4.lt b q).1; omega, (h4.lt b q).2⟩, h7, by omega, h9, fun j s hj => G1.keep.wide (h6 j s hj) (fun b _ q => by rcases q with q | q; exact .inl q; exact .inr (.inr q)), h10, h11.wide ho3, h12.wide ho3⟩
/-- a row of outer compounds -/
def RMk2 (w : World) (v : Value) (lo n : Nat) (los his : Nat → Nat) (rs : List MR) (l : List (Ck SK)) : Prop := w.ownsRow lo 102 6 v n (flat MR.cells rs) ∧ rs.length = n ∧ l.length = n ∧ (∀ (j : Nat) r x, rs[j]? = some r → l[j]? = some x → RCk1 (los j) (his j) w r x) ∧ (∀ j, j < n → lo ≤ los j ∧ los j ≤ his j ∧ his j ≤ w.heap.size) ∧ (∀ i j, i < j → j < n → his i ≤ los j) ∧ (∀ j, j < n → ∀ b, Ob v b → b < los j ∨ his j ≤ b)
theorem RMk2.after {w w' : World} {v : Value} {lo n : Nat} {los his : Nat → Nat} {rs : List MR} {l : List (Ck SK)} (h : RMk2 w v lo n los his rs l) (hb : Below w.heap.size w w') : RMk2 w' v lo n los his rs l := by
  obtain ⟨h1, h2, h3, h4, h5, h6, h7⟩ := h
  exact ⟨own_below h1 hb, h2, h3, fun j r x hr hx => (h4 j r x hr hx).keep (S := fun _ => False) (Kp.of hb) (fun _ _ q => q.elim), fun j hj => by have := h5 j hj; have := hb.size; omega, h6, h7⟩
theorem RMk2.keep {S : Nat → Prop} {w w' : World} {v : Value} {lo n : Nat} {los his : Nat → Nat} {rs : List MR} {l : List (Ck SK)} (h : RMk2 w v lo n los his rs l) (hk : Kp S w w') (hs : ∀ b, S b → b < lo) : RMk2 w' v lo n los his rs l := by
  obtain ⟨h1, h2, h3, h4, h5, h6, h7⟩ := h
  exact ⟨hk.own h1 (fun b q e => by have := (h1.lt b q).1; have := hs b e; omega), h2, h3, fun j r x hr hx => (h4 j r x hr hx).keep hk (fun b _ q => .inl (by have := (h5 j (by rw [← h2]; exact (List.getElem?_eq_some_iff.1 hr).1)).1; have := hs b q; omega)), fun j hj => by have := h5 j hj; have := hk.size; omega, h6, h7⟩
theorem RMk2.base {w : World} {v : Value} {lo lo' n : Nat} {los his : Nat → Nat} {rs : List MR} {l : List (Ck SK)} (h : RMk2 w v lo n los his rs l) (hl : lo' ≤ lo) : RMk2 w v lo' n los his rs l := by
  obtain ⟨h1, h2, h3, h4, h5, h6, h7⟩ := h
  exact ⟨own_base h1 hl, h2, h3, h4, fun j hj => by have := h5 j hj; omega, h6, h7⟩
def upd (f : Nat → Nat) (n x j : Nat) : Nat := if j = n then x else f j
theorem upd_eq {f : Nat → Nat} {n x : Nat} : upd f n x n = x := if_pos rfl
theorem upd_ne {f : Nat → Nat} {n x j : Nat} (h : j ≠ n) : upd f n x j = f j := if_neg h
theorem RMk2.step {w w7 w8 : World} {v v' : Value} {lo n : Nat} {los his : Nat → Nat} {rs : List MR} {l : List (Ck SK)} {r : MR} {x : Ck SK} (h : RMk2 w v lo n los his rs l) (hlo : lo ≤ w.heap.size) (hb : Below w.heap.size w w7) (hr : RCk1 w.heap.size w7.heap.size w7 r x) (hO : w8.ownsRow lo 102 6 v' (n + 1) (flat MR.cells rs ++ r.cells)) (hk : Kp (Ob v) w7 w8) (hn : ∀ b, Ob v' b → Ob v b ∨ w7.heap.size ≤ b) : RMk2 w8 v' lo (n + 1) (upd los n w.heap.size) (upd his n w7.heap.size) (rs ++ [r]) (l ++ [x]) := by
  obtain ⟨h1, h2, h3, h4, h5, h6, h7⟩ := h
  have z1 := hb.size
  have z2 := hk.size
  refine ⟨by rw [← flat_add]; exact hO, by simp [h2], by simp [h3], fun j r' x' hr' hx' => ?_, fun j hj => ?_, fun i j hij hj => ?_, fun j hj b q => ?_⟩
  · by_cases hj : j < n
    · rw [List.getElem?_append_left (by omega)] at hr' hx'
      rw [upd_ne (by omega), upd_ne (by omega)]
      exact ((h4 j r' x' hr' hx').keep (S := fun _ => False) (Kp.of hb) (fun _ _ q => q.elim)).keep hk (fun b _ q => h7 j hj b q)
    · have hjn : j = n := by have := (List.getElem?_eq_some_iff.1 hr').1; simp at this; omega
      subst hjn
      rw [List.getElem?_append_right (by omega), h2, Nat.sub_self] at hr'
      rw [List.getElem?_append_right (by omega), h3, Nat.sub_self] at hx'
      injection hr' with hr'
      injection hx' with hx'
      subst hr'
      subst hx'
      rw [upd_eq, upd_eq]
      exact hr.keep hk (fun b _ q => .inl (h1.lt b q).2)
  · by_cases hjn : j = n
    · subst hjn; rw [upd_eq, upd_eq]; omega
    · rw [upd_ne hjn, upd_ne hjn]; have := h5 j (by omega); omega
  · by_cases hjn : j = n
    · subst hjn; rw [upd_eq, upd_ne (by omega)]; exact (h5 i (by omega)).2.2
    · rw [upd_ne hjn, upd_ne (by omega)]; exact h6 i j hij (by omega)
  · by_cases hjn : j = n
    · subst hjn; rw [upd_eq, upd_eq]
      rcases hn b q with q | q
      · exact .inl (h1.lt b q).2
      · exact .inr q
    · rw [upd_ne hjn, upd_ne hjn]
      rcases hn b q with q | q
      · exact h7 j (by omega) b q
      · have := (h5 j (by omega)).2.2; omega
end Go.Proofs.Ytjigljpodkfchad
