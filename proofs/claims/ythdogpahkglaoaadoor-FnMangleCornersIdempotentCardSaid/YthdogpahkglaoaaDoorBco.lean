/- The merge on codes: what a run lays is read back by the next. -/
import Derived.Test.YthdogpahkglaoaaDoorBck
import Derived.Test.YthdogpahkglaoaaDoorBcn
set_option linter.unusedVariables false
set_option linter.unusedSimpArgs false
namespace Go.Proofs.YthdogpahkglaoaaDoor
open Go.RowKit
def xqI (n : Nat) (g : Nat → Int) (i : Nat) : Int := if i = 0 then g 0 else if i = 1 then (if 1 < n then g 1 else g 0) else if i = 2 then (if 2 < n then g 2 else g 0) else (if 3 < n then g 3 else if 1 < n then g 1 else g 0)
theorem xq_pick (n : Nat) (F : Nat → Tk) (g : Nat → Int) (hn : 1 ≤ n) (i : Nat) : ∃ j, j < n ∧ xq n F i = F j ∧ xqI n g i = g j := by
  unfold xq xqI
  by_cases h0 : i = 0
  · rw [if_pos h0, if_pos h0]; exact ⟨0, by omega, rfl, rfl⟩
  rw [if_neg h0, if_neg h0]
  by_cases h1 : i = 1
  · rw [if_pos h1, if_pos h1]
    by_cases c : 1 < n
    · rw [if_pos c, if_pos c]; exact ⟨1, c, rfl, rfl⟩
    · rw [if_neg c, if_neg c]; exact ⟨0, by omega, rfl, rfl⟩
  rw [if_neg h1, if_neg h1]
  by_cases h2 : i = 2
  · rw [if_pos h2, if_pos h2]
    by_cases c : 2 < n
    · rw [if_pos c, if_pos c]; exact ⟨2, c, rfl, rfl⟩
    · rw [if_neg c, if_neg c]; exact ⟨0, by omega, rfl, rfl⟩
  rw [if_neg h2, if_neg h2]
  by_cases c : 3 < n
  · rw [if_pos c, if_pos c]; exact ⟨3, c, rfl, rfl⟩
  rw [if_neg c, if_neg c]
  by_cases c1 : 1 < n
  · rw [if_pos c1, if_pos c1]; exact ⟨1, c1, rfl, rfl⟩
  · rw [if_neg c1, if_neg c1]; exact ⟨0, by omega, rfl, rfl⟩
theorem xq_sim {n : Nat} {F : Nat → Tk} {g : Nat → Int} (hn : 1 ≤ n) (h : ∀ i, i < n → SimC (F i) (g i)) (i : Nat) : SimC (xq n F i) (xqI n g i) := by
  obtain ⟨j, hj, e1, e2⟩ := xq_pick n F g hn i
  rw [e1, e2]; exact h j hj
theorem xqI_all {n : Nat} {g : Nat → Int} {p : Int → Prop} (hn : 1 ≤ n) (h : ∀ i, i < n → p (g i)) (i : Nat) : p (xqI n g i) := by
  obtain ⟨j, hj, -, e2⟩ := xq_pick n (fun _ => tk0) g hn i
  rw [e2]; exact h j hj
theorem xqI_cg {n : Nat} {g h : Nat → Int} (hn : 1 ≤ n) (e : ∀ i, i < n → g i = h i) (i : Nat) : xqI n g i = xqI n h i := by
  unfold xqI
  by_cases c1 : 1 < n
  · by_cases c2 : 2 < n
    · by_cases c3 : 3 < n
      · rw [e 0 (by omega), e 1 c1, e 2 c2, e 3 c3]
      · rw [if_neg c3, if_neg c3, e 0 (by omega), e 1 c1, e 2 c2]
    · rw [if_neg c2, if_neg c2, if_neg (show ¬ 3 < n by omega), if_neg (show ¬ 3 < n by omega), e 0 (by omega), e 1 c1]
  · rw [if_neg c1, if_neg c1, if_neg (show ¬ 2 < n by omega), if_neg (show ¬ 2 < n by omega), if_neg (show ¬ 3 < n by omega), if_neg (show ¬ 3 < n by omega), e 0 (by omega)]
theorem sim_eq {s t : Tk} {a b : Int} (hs : SimC s a) (ht : SimC t b) : tkEq s t = tkEq (zk a) (zk b) := by
  unfold tkEq
  rw [hs.kd, hs.tx, hs.pl, ht.kd, ht.tx, ht.pl]
  rfl
def mK (x : Nat → Int) : Nat := minN (x 0) (x 1) (x 2) (x 3)
def mP (x : Nat → Int) (i : Nat) : Int := qI (x 0) (x 1) (x 2) (x 3) i
def mEq (x y : Nat → Int) : Bool := decide (mK x = mK y) && (List.range (mK x)).all fun i => decide (mP x i = mP y i)
def mN (x y : Nat → Int) : Nat := if mEq x y = true then mK x else mK x + 1 + mK y
def mC (x y : Nat → Int) (i : Nat) : Int := if mEq x y = true then mP x i else if i < mK x then mP x i else if i = mK x then 7 else mP y (i - mK x - 1)
def mW (x y : Nat → Int) (m : Bool) (i : Nat) : Int := if mEq x y = true then wsF i (mK x) m else if i < mK x then wsF i (mK x) m else if i = mK x then (if m = true then 0 else 3) else wsF (i - mK x - 1) (mK y) m
def I4 (x : Nat → Int) : Prop := ∀ i, i < 4 → 0 ≤ x i ∧ x i ≤ 4
theorem mK_pos (x : Nat → Int) : 1 ≤ mK x := by
  unfold mK minN
  repeat' split
  all_goals omega
theorem mK_le (x : Nat → Int) : mK x ≤ 4 := by
  unfold mK minN
  repeat' split
  all_goals omega
theorem mP_all {x : Nat → Int} {p : Int → Prop} (h : ∀ i, i < 4 → p (x i)) (i : Nat) : p (mP x i) := by
  unfold mP qI
  repeat' split
  · exact h 0 (by omega)
  · exact h 1 (by omega)
  · exact h 2 (by omega)
  · exact h 3 (by omega)
theorem kMin_sim {F : Nat → Tk} {x : Nat → Int} (h : ∀ i, i < 4 → SimC (F i) (x i)) (hx : I4 x) : kMin (F 0) (F 1) (F 2) (F 3) = mK x := by
  have e : kMin (F 0) (F 1) (F 2) (F 3) = kMin (zk (x 0)) (zk (x 1)) (zk (x 2)) (zk (x 3)) := by
    unfold kMin
    rw [sim_eq (h 3 (by omega)) (h 1 (by omega)), sim_eq (h 2 (by omega)) (h 0 (by omega)), sim_eq (h 1 (by omega)) (h 0 (by omega))]
  rw [e]
  exact kMin_zk _ _ _ _ (hx 0 (by omega)) (hx 1 (by omega)) (hx 2 (by omega)) (hx 3 (by omega))
theorem pick_sim {F : Nat → Tk} {x : Nat → Int} (h : ∀ i, i < 4 → SimC (F i) (x i)) (i : Nat) : SimC (pick4 (F 0) (F 1) (F 2) (F 3) i) (mP x i) := by
  unfold pick4 mP qI
  by_cases h0 : i = 0
  · rw [if_pos h0, if_pos h0]; exact h 0 (by omega)
  rw [if_neg h0, if_neg h0]
  by_cases h1 : i = 1
  · rw [if_pos h1, if_pos h1]; exact h 1 (by omega)
  rw [if_neg h1, if_neg h1]
  by_cases h2 : i = 2
  · rw [if_pos h2, if_pos h2]; exact h 2 (by omega)
  rw [if_neg h2, if_neg h2]
  exact h 3 (by omega)
theorem SimC.ws {t : Tk} {c : Int} (h : SimC t c) (v : Int) : SimC { t with ws := v } c := ⟨h.kd, h.tx, h.pl, h.ch⟩
theorem lEq_sim {F H : Nat → Tk} {x y : Nat → Int} {u v : Nat → Int} (h : ∀ i, i < 4 → SimC (F i) (x i)) (hx : I4 x) (h' : ∀ i, i < 4 → SimC (H i) (y i)) (hy : I4 y) : lEq (mK x) (mK y) (fun i => { pick4 (F 0) (F 1) (F 2) (F 3) i with ws := u i }) (fun i => { pick4 (H 0) (H 1) (H 2) (H 3) i with ws := v i }) = mEq x y := by
  unfold lEq mEq
  congr 1
  refine congrArg (fun f => List.all (List.range (mK x)) f) (funext fun i => ?_)
  rw [sim_eq ((pick_sim h i).ws _) ((pick_sim h' i).ws _), tkEq_zk _ _ (mP_all (p := fun c => 0 ≤ c ∧ c ≤ 4) hx i) (mP_all (p := fun c => 0 ≤ c ∧ c ≤ 4) hy i)]
theorem xq_min (x : Nat → Int) (i : Nat) (hi : i < 4) : xqI (mK x) (mP x) i = x i := by
  unfold mK minN
  have m0 : mP x 0 = x 0 := rfl
  have m1 : mP x 1 = x 1 := rfl
  have m2 : mP x 2 = x 2 := rfl
  have m3 : mP x 3 = x 3 := rfl
  unfold xqI
  rw [m0, m1, m2, m3]
  rcases (by omega : i = 0 ∨ i = 1 ∨ i = 2 ∨ i = 3) with rfl | rfl | rfl | rfl
  · rfl
  · by_cases c1 : x 1 = x 0 ∧ x 2 = x 0 ∧ x 3 = x 0
    · rw [if_pos c1]; exact c1.1.symm
    rw [if_neg c1]
    by_cases c2 : x 2 = x 0 ∧ x 3 = x 1
    · rw [if_pos c2]; rfl
    rw [if_neg c2]
    by_cases c3 : x 3 = x 1
    · rw [if_pos c3]; rfl
    · rw [if_neg c3]; rfl
  · by_cases c1 : x 1 = x 0 ∧ x 2 = x 0 ∧ x 3 = x 0
    · rw [if_pos c1]; exact c1.2.1.symm
    rw [if_neg c1]
    by_cases c2 : x 2 = x 0 ∧ x 3 = x 1
    · rw [if_pos c2]; exact c2.1.symm
    rw [if_neg c2]
    by_cases c3 : x 3 = x 1
    · rw [if_pos c3]; rfl
    · rw [if_neg c3]; rfl
  · by_cases c1 : x 1 = x 0 ∧ x 2 = x 0 ∧ x 3 = x 0
    · rw [if_pos c1]; exact c1.2.2.symm
    rw [if_neg c1]
    by_cases c2 : x 2 = x 0 ∧ x 3 = x 1
    · rw [if_pos c2]; exact c2.2.symm
    rw [if_neg c2]
    by_cases c3 : x 3 = x 1
    · rw [if_pos c3]; exact c3.symm
    · rw [if_neg c3]; rfl
theorem mEq_eq {x y : Nat → Int} (h : mEq x y = true) : ∀ i, i < 4 → x i = y i := fun i hi => by
  unfold mEq at h
  simp only [Bool.and_eq_true, decide_eq_true_eq, List.all_eq_true, List.mem_range] at h
  obtain ⟨h1, h2⟩ := h
  rw [← xq_min x i hi, ← xq_min y i hi, ← h1]
  exact xqI_cg (mK_pos x) h2 i
/-- the second pass reads the first's list -/
def q2I (g : Nat → Int) (N bs sa : Nat) : Nat → Int := if bs < N then xqI (N - sa) (fun i => g (sa + i)) else xqI bs g
theorem okS_m (x y : Nat → Int) (hx : I4 x) (hy : I4 y) : ∃ sa, OkS (mC x y) (mN x y) (mK x) sa ∧ (∀ i, i < 4 → xqI (mK x) (mC x y) i = x i) ∧ (∀ i, i < 4 → q2I (mC x y) (mN x y) (mK x) sa i = y i) ∧ ∀ i, i < mN x y → i ≠ mK x → mC x y i ≤ 4 := by
  have k1 := mK_pos x
  have k2 := mK_pos y
  have l1 := mK_le x
  have l2 := mK_le y
  have b1 : ∀ i, mP x i ≤ 4 := fun i => mP_all (p := fun c => c ≤ 4) (fun i hi => (hx i hi).2) i
  have b2 : ∀ i, mP y i ≤ 4 := fun i => mP_all (p := fun c => c ≤ 4) (fun i hi => (hy i hi).2) i
  by_cases e : mEq x y = true
  · have hN : mN x y = mK x := if_pos e
    have hC : mC x y = mP x := by funext i; exact if_pos e
    rw [hN, hC]
    refine ⟨mK x, ⟨k1, l1, Nat.le_refl _, fun i _ => by have := b1 i; omega, .inl ⟨rfl, rfl⟩⟩, fun i hi => xq_min x i hi, fun i hi => ?_, fun i _ _ => b1 i⟩
    unfold q2I
    rw [if_neg (Nat.lt_irrefl _), xq_min x i hi]
    exact mEq_eq e i hi
  · have hN : mN x y = mK x + 1 + mK y := if_neg e
    have hC : ∀ i, mC x y i = if i < mK x then mP x i else if i = mK x then 7 else mP y (i - mK x - 1) := fun i => if_neg e
    have c1 : ∀ i, i < mK x → mC x y i = mP x i := fun i hi => by rw [hC, if_pos hi]
    have c2 : mC x y (mK x) = 7 := by rw [hC, if_neg (Nat.lt_irrefl _), if_pos rfl]
    have c3 : ∀ i, mC x y (mK x + 1 + i) = mP y i := fun i => by rw [hC, if_neg (by omega), if_neg (by omega)]; congr 1; omega
    rw [hN]
    refine ⟨mK x + 1, ⟨k1, l1, by omega, fun i hi => by rw [c1 i hi]; have := b1 i; omega, .inr ⟨rfl, by omega, c2, by omega, by omega, fun i hi hlt => ?_⟩⟩, fun i hi => ?_, fun i hi => ?_, fun i hi hne => ?_⟩
    · have := c3 (i - (mK x + 1))
      rw [show mK x + 1 + (i - (mK x + 1)) = i by omega] at this
      rw [this]
      have := b2 (i - (mK x + 1)); omega
    · rw [xqI_cg k1 c1 i]; exact xq_min x i hi
    · unfold q2I
      rw [if_pos (by omega), show mK x + 1 + mK y - (mK x + 1) = mK y by omega, xqI_cg k2 (fun j _ => c3 j) i]
      exact xq_min y i hi
    · by_cases c : i < mK x
      · rw [c1 i c]; exact b1 i
      · have := c3 (i - (mK x + 1))
        rw [show mK x + 1 + (i - (mK x + 1)) = i by omega] at this
        rw [this]
        exact b2 _
theorem OkS.sl {g : Nat → Int} {N bs sa : Nat} (h : OkS g N bs sa) : SlI g N N bs sa := by
  rcases h.cas with ⟨e1, e2⟩ | ⟨e1, e2, e3, e4, e5, hn⟩
  · refine .inl ⟨e1, e2, fun j hj e => ?_⟩
    have := h.num j (by omega); omega
  · refine .inr ⟨e2, Nat.le_refl _, e1, e3, fun j hj hne e => ?_⟩
    by_cases c : j < bs
    · have := h.num j c; omega
    · have := hn j (by omega) hj; omega
theorem q2_sim {G : Nat → Tk} {g : Nat → Int} {N bs sa : Nat} (h : OkS g N bs sa) (hs : ∀ i, i < N → SimC (G i) (g i)) (i : Nat) : SimC (q2F G N bs sa i) (q2I g N bs sa i) := by
  unfold q2F q2I
  rcases h.cas with ⟨e1, e2⟩ | ⟨e1, e2, e3, e4, e5, hn⟩
  · rw [if_neg (by omega), if_neg (by omega)]
    exact xq_sim h.b1 (fun j hj => hs j (by omega)) i
  · rw [if_pos e2, if_pos e2]
    exact xq_sim e4 (fun j hj => hs _ (by omega)) i
theorem q2_all {g : Nat → Int} {N bs sa : Nat} {p : Int → Prop} (h : OkS g N bs sa) (hs : ∀ i, i < N → i ≠ bs → p (g i)) (i : Nat) : p (q2I g N bs sa i) := by
  unfold q2I
  rcases h.cas with ⟨e1, e2⟩ | ⟨e1, e2, e3, e4, e5, hn⟩
  · rw [if_neg (by omega)]
    exact xqI_all h.b1 (fun j hj => hs j (by omega) (by omega)) i
  · rw [if_pos e2]
    exact xqI_all e4 (fun j hj => hs _ (by omega) (by omega)) i
theorem x1_all {g : Nat → Int} {N bs sa : Nat} {p : Int → Prop} (h : OkS g N bs sa) (hs : ∀ i, i < N → i ≠ bs → p (g i)) (i : Nat) : p (xqI bs g i) := xqI_all h.b1 (fun j hj => hs j (by have := h.bN; omega) (by omega)) i
end Go.Proofs.YthdogpahkglaoaaDoor
