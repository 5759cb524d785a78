/- mangleCorners on a fresh tracker, whatever the tokens. -/
import Derived.Test.YthdogpahkglaoaaDoorBch
set_option linter.unusedVariables false
set_option linter.unusedSimpArgs false
namespace Go.Proofs.YthdogpahkglaoaaDoor
open Go.RowKit
/-- a token that says a code -/
structure SimC (t : Tk) (c : Int) : Prop where
  kd : t.kd = kdC c
  tx : t.tx = txC c
  pl : t.pl = 0
  ch : t.ch = .pointer none
theorem code8 {c : Int} (h : 0 ≤ c ∧ c ≤ 7) : c = 0 ∨ c = 1 ∨ c = 2 ∨ c = 3 ∨ c = 4 ∨ c = 5 ∨ c = 6 ∨ c = 7 := by omega
theorem SimC.k24 {t : Tk} {c : Int} (h : SimC t c) (hc : 0 ≤ c ∧ c ≤ 7) : (t.kd == 24) = decide (c = 7) := by
  rw [h.kd]
  rcases code8 hc with rfl | rfl | rfl | rfl | rfl | rfl | rfl | rfl <;> decide
theorem SimC.num {t : Tk} {c : Int} (h : SimC t c) (hc : 0 ≤ c ∧ c ≤ 7) : (t.kd == 30 || t.kd == 34 || t.kd == 26) = decide (c ≤ 5) := by
  rw [h.kd]
  rcases code8 hc with rfl | rfl | rfl | rfl | rfl | rfl | rfl | rfl <;> decide
theorem SimC.n26 {t : Tk} {c : Int} (h : SimC t c) (hc : 0 ≤ c ∧ c ≤ 7) : (t.kd == 26) = false := by
  rw [h.kd]
  rcases code8 hc with rfl | rfl | rfl | rfl | rfl | rfl | rfl | rfl <;> decide
theorem SimC.kinds {t : Tk} {c : Int} (h : SimC t c) (hc : 0 ≤ c ∧ c ≤ 7) : t.kd = 34 ∨ t.kd = 30 ∨ t.kd = 29 ∨ t.kd = 24 := by
  rw [h.kd]
  rcases code8 hc with rfl | rfl | rfl | rfl | rfl | rfl | rfl | rfl <;> decide
theorem SimC.unit {t : Tk} {c : Int} (h : SimC t c) (hc : 0 ≤ c ∧ c ≤ 7) (st : Int) : unitSt st t = if c ≤ 4 then st else 2 := by
  unfold unitSt
  rw [h.kd, h.tx]
  rcases code8 hc with rfl | rfl | rfl | rfl | rfl | rfl | rfl | rfl
  · rfl
  · rfl
  · rfl
  · rw [if_neg (by decide), if_pos (by decide), if_pos (by decide +kernel)]; rfl
  · rfl
  · rw [if_neg (by decide), if_pos (by decide), if_neg (by decide +kernel)]; rfl
  · rfl
  · rfl
/-- what a list of codes is, if the quads can be read from it -/
structure OkS (g : Nat → Int) (N bs sa : Nat) : Prop where
  b1 : 1 ≤ bs
  b4 : bs ≤ 4
  bN : bs ≤ N
  num : ∀ i, i < bs → g i ≤ 5
  cas : (bs = N ∧ sa = N) ∨ (sa = bs + 1 ∧ bs < N ∧ g bs = 7 ∧ 1 ≤ N - sa ∧ N - sa ≤ 4 ∧ ∀ i, sa ≤ i → i < N → g i ≤ 5)
/-- where the slash is, of the first i -/
def SlI (g : Nat → Int) (N i bs sa : Nat) : Prop := (bs = N ∧ sa = N ∧ ∀ j, j < i → ¬ g j = 7) ∨ (bs < i ∧ i ≤ N ∧ sa = bs + 1 ∧ g bs = 7 ∧ ∀ j, j < i → j ≠ bs → ¬ g j = 7)
theorem two_no {g : Nat → Int} {N s i : Nat} (h1 : g s = 7) (h2 : g i = 7) (hs : s < i) (hi : i < N) : ¬ ∃ bs sa, OkS g N bs sa := by
  rintro ⟨bs, sa, h⟩
  rcases h.cas with ⟨e, -⟩ | ⟨e, hb, h7, -, -, hn⟩
  · have := h.num s (by omega); omega
  · by_cases c : s < bs
    · have := h.num s c; omega
    · have := hn i (by omega) hi; omega
def okQ (g : Nat → Int) (o n : Nat) : Bool := decide (1 ≤ n ∧ n ≤ 4 ∧ ∀ i, i < n → g (o + i) ≤ 5)
theorem okS_of {g : Nat → Int} {N bs sa : Nat} (hs : SlI g N N bs sa) (h1 : okQ g 0 bs = true) (h2 : bs = N ∨ okQ g sa (N - sa) = true) : OkS g N bs sa := by
  unfold okQ at h1 h2
  simp only [decide_eq_true_eq, Nat.zero_add] at h1 h2
  rcases hs with ⟨e1, e2, -⟩ | ⟨e1, e2, e3, e4, -⟩
  · exact ⟨h1.1, h1.2.1, by omega, h1.2.2, .inl ⟨e1, e2⟩⟩
  · rcases h2 with h2 | h2
    · omega
    · exact ⟨h1.1, h1.2.1, by omega, h1.2.2, .inr ⟨e3, e1, e4, h2.1, h2.2.1, fun i hi hN => by have := h2.2.2 (i - sa) (by omega); rwa [show sa + (i - sa) = i by omega] at this⟩⟩
theorem OkS.same {g : Nat → Int} {N bs sa bs' sa' : Nat} (h : OkS g N bs sa) (hs : SlI g N N bs' sa') : bs' = bs ∧ sa' = sa := by
  rcases h.cas with ⟨e1, e2⟩ | ⟨e1, e2, e3, -, -, hn⟩ <;> rcases hs with ⟨f1, f2, f3⟩ | ⟨f1, f2, f3, f4, f5⟩
  · omega
  · have := h.num bs' (by omega); omega
  · exact absurd e3 (f3 bs e2)
  · have : bs' = bs := by
      by_cases c : bs' = bs
      · exact c
      · exact absurd e3 (f5 bs e2 (fun q => c q.symm))
    omega
theorem ref_no {g : Nat → Int} {N bs sa : Nat} (hs : SlI g N N bs sa) (h : okQ g 0 bs = false ∨ (bs < N ∧ okQ g sa (N - sa) = false)) : ¬ ∃ bs sa, OkS g N bs sa := by
  rintro ⟨bs', sa', h'⟩
  obtain ⟨rfl, rfl⟩ := h'.same hs
  unfold okQ at h
  simp only [decide_eq_false_iff_not, Nat.zero_add] at h
  rcases h with h | ⟨hb, h⟩
  · exact h ⟨h'.b1, h'.b4, h'.num⟩
  · rcases h'.cas with ⟨e1, -⟩ | ⟨e1, e2, e3, e4, e5, hn⟩
    · omega
    · exact h ⟨e4, e5, fun i hi => hn _ (by omega) (by omega)⟩
theorem exq_any (A : Option Addr) (T o n c : Nat) (g : Nat → Int) (F : Nat → Tk) (w : World) (hA : 0 < n → A = some ⟨T, o * 7, none⟩) (hn : n ≤ 4096) (hF : ∀ i, i < n → TAt w T ((o + i) * 7) (F (o + i))) (hs : ∀ i, i < n → SimC (F (o + i)) (g (o + i)) ∧ 0 ≤ g (o + i) ∧ g (o + i) ≤ 7) :
    Calls Tryd.prog 27 #[.slice A n c, .string ⟨#[]⟩] w (GQ' (if okQ g o n = true then xq n (fun i => F (o + i)) else zq) (okQ g o n) w) := by
  by_cases h : okQ g o n = true
  · rw [h, if_pos rfl]
    unfold okQ at h
    simp only [decide_eq_true_eq] at h
    obtain ⟨h1, h4, hnum⟩ := h
    rw [hA (by omega)]
    have hF' : ∀ i, i < n → TAt w T (o * 7 + i * 7) (F (o + i)) := fun i hi => by rw [← Nat.add_mul]; exact hF i hi
    have hk' : ∀ i, i < n → ((F (o + i)).kd == 30 || (F (o + i)).kd == 34 || (F (o + i)).kd == 26) = true := fun i hi => by rw [(hs i hi).1.num (hs i hi).2]; simpa using hnum i hi
    rcases (by omega : n = 1 ∨ n = 2 ∨ n = 3 ∨ n = 4) with rfl | rfl | rfl | rfl
    · exact exq_ok1 T (o * 7) c (fun i => F (o + i)) w hF' (fun i hi => (hs i hi).1.ch) hk'
    · exact exq_ok2 T (o * 7) c (fun i => F (o + i)) w hF' (fun i hi => (hs i hi).1.ch) hk'
    · exact exq_ok3 T (o * 7) c (fun i => F (o + i)) w hF' (fun i hi => (hs i hi).1.ch) hk'
    · exact exq_ok4 T (o * 7) c (fun i => F (o + i)) w hF' (fun i hi => (hs i hi).1.ch) hk'
  · have h' : okQ g o n = false := by simpa using h
    rw [h', if_neg (by decide)]
    by_cases h0 : n = 0
    · exact exq_no A n c w (.inl h0)
    · by_cases h4 : n ≤ 4
      · unfold okQ at h'
        simp only [decide_eq_false_iff_not] at h'
        have hex : ∃ k, k < n ∧ 5 < g (o + k) := Classical.byContradiction fun hno => h' ⟨by omega, h4, fun i hi => by
          by_cases c : g (o + i) ≤ 5
          · exact c
          · exact absurd ⟨i, hi, by omega⟩ hno⟩
        obtain ⟨k, hk⟩ := hex
        have hmin : ∃ k, (k < n ∧ 5 < g (o + k)) ∧ ∀ i, i < k → ¬ (i < n ∧ 5 < g (o + i)) := by
          induction k using Nat.strongRecOn with
          | ind k ih =>
            by_cases c : ∃ i, i < k ∧ i < n ∧ 5 < g (o + i)
            · obtain ⟨i, hi, h2⟩ := c
              exact ih i hi h2
            · exact ⟨k, hk, fun i hi q => c ⟨i, hi, q⟩⟩
        obtain ⟨k, hk, hmn⟩ := hmin
        rw [hA (by omega)]
        exact exq_bad T (o * 7) n c k (fun i => F (o + i)) w (by omega) h4 (fun i hi => by rw [← Nat.add_mul]; exact hF i hi) (fun i hi => (hs i hi).1.ch) hk.1 (by rw [(hs k hk.1).1.num (hs k hk.1).2]; simp; omega) (fun i hi => by rw [(hs i (by omega)).1.num (hs i (by omega)).2]; have := hmn i hi; simp; omega)
      · exact exq_no A n c w (.inr ⟨by omega, hn⟩)
theorem exq_0 (T n c : Nat) (g : Nat → Int) (F : Nat → Tk) (w : World) (hn : n ≤ 4096) (hF : ∀ i, i < n → TAt w T (i * 7) (F i)) (hs : ∀ i, i < n → SimC (F i) (g i) ∧ 0 ≤ g i ∧ g i ≤ 7) :
    Calls Tryd.prog 27 #[.slice (some ⟨T, 0, none⟩) n c, .string ⟨#[]⟩] w (GQ' (if okQ g 0 n = true then xq n F else zq) (okQ g 0 n) w) := by
  have := exq_any (some ⟨T, 0, none⟩) T 0 n c g F w (fun _ => by simp) hn (fun i hi => by rw [Nat.zero_add]; exact hF i hi) (fun i hi => by rw [Nat.zero_add]; exact hs i hi)
  simpa only [Nat.zero_add] using this
/-- the unit's status -/
def StS (g : Nat → Int) (N bs : Nat) (st : Int) : Prop := (st = 0 ∨ st = 2) ∧ (st = 0 ↔ ∀ i, i < N → i ≠ bs → g i ≤ 4)
structure UCs (w : World) (U : Nat) (st : Int) : Prop where
  c0 : w.cell? ⟨U, 0, none⟩ = some (.string ⟨#[]⟩)
  c1 : w.cell? ⟨U, 1, none⟩ = some (.int .u8 st)
  f1 : w.frozen? ⟨U, 1, none⟩ = false
theorem UCs.after {w w' : World} {U : Nat} {st : Int} (h : UCs w U st) (hb : Below w.heap.size w w') : UCs w' U st := ⟨ac hb h.c0, ac hb h.c1, af hb h.c1 h.f1⟩
theorem unitC (B : Nat) (t : Tk) (c st : Int) (h : SimC t c) (hc : 0 ≤ c ∧ c ≤ 7) (w : World) (u : UCs w B st) : Calls Tryd.prog 22 #[.pointer (some ⟨B, 0, none⟩), tkV t] w (UnP B ⟨#[]⟩ (if c ≤ 4 then st else 2) w) := by
  have := unit_c st B ⟨#[]⟩ t (h.kinds hc) w u.c0 u.c1 u.f1
  rwa [h.unit hc, tkV_eq h.ch] at this
theorem st_step {st : Int} {p q : Prop} (h1 : st = 0 ∨ st = 2) (h2 : st = 0 ↔ p) (c : Int) (hq : q ↔ p ∧ c ≤ 4) : ((if c ≤ 4 then st else 2) = 0 ∨ (if c ≤ 4 then st else 2) = 2) ∧ ((if c ≤ 4 then st else 2) = 0 ↔ q) := by
  rw [hq, ← h2]
  by_cases h : c ≤ 4
  · rw [if_pos h]
    exact ⟨h1, ⟨fun e => ⟨e, h⟩, fun e => e.1⟩⟩
  · rw [if_neg h]
    exact ⟨.inr rfl, ⟨fun e => by omega, fun e => absurd e.2 h⟩⟩
theorem all_succ (g : Nat → Int) (i : Nat) : (∀ j, j < i + 1 → g j ≤ 4) ↔ (∀ j, j < i → g j ≤ 4) ∧ g i ≤ 4 :=
  ⟨fun h => ⟨fun j hj => h j (by omega), h i (by omega)⟩, fun h j hj => by
    by_cases e : j = i
    · subst e; exact h.2
    · exact h.1 j (by omega)⟩
theorem sts_of {g : Nat → Int} {N bs sa : Nat} {st : Int} (hs : SlI g N N bs sa) (h1 : st = 0 ∨ st = 2) (h2 : st = 0 ↔ ((∀ j, j < bs → g j ≤ 4) ∧ ∀ j, j < N - sa → g (sa + j) ≤ 4)) : StS g N bs st := by
  refine ⟨h1, h2.trans ⟨fun h i hi hne => ?_, fun h => ⟨fun j hj => ?_, fun j hj => ?_⟩⟩⟩
  · rcases hs with ⟨e1, e2, -⟩ | ⟨e1, e2, e3, -, -⟩
    · exact h.1 i (by omega)
    · by_cases c : i < bs
      · exact h.1 i c
      · have := h.2 (i - sa) (by omega); rwa [show sa + (i - sa) = i by omega] at this
  · rcases hs with ⟨e1, e2, -⟩ | ⟨e1, e2, e3, -, -⟩
    · exact h j (by omega) (by omega)
    · exact h j (by omega) (by omega)
  · rcases hs with ⟨e1, e2, -⟩ | ⟨e1, e2, e3, -, -⟩
    · omega
    · exact h _ (by omega) (by omega)
set_option maxRecDepth 100000 in
theorem sl23hb (W : World) (A : Option Addr) (n c k : Nat) (h : k ≤ c) : (Instr.sliceAt 23 (.slice A n c) none (some (.int .i64 (k : Int))) none).run Tryd.prog W = .ok (.slice A k c) W := by
  rw [run_sliceAt_slice W 23 _ _ _ _ Tryd.underlying23, run_slice_h W 23 _ _ _ Tryd.underlying23 .i64 _ (by omega) (by omega)]
  have hs : (sizeOf (Tryd.prog.elem 23)).run Tryd.prog W = .ok 7 W := by kernel_rfl
  rw [hs]
  cases A <;> simp [Result.andThen, sliced, Addr.add]
set_option maxRecDepth 100000 in
theorem sl23lb (T n c k : Nat) (hk : k ≤ n) (h : n ≤ c) : ∃ A, (0 < n - k → A = some ⟨T, k * 7, none⟩) ∧ ∀ W, (Instr.sliceAt 23 (.slice (some ⟨T, 0, none⟩) n c) (some (.int .i64 (k : Int))) none none).run Tryd.prog W = .ok (.slice A (n - k) (c - k)) W := by
  refine ⟨if c = k then some ⟨T, 0, none⟩ else some ((⟨T, 0, none⟩ : Addr).add (k * 7)), fun h1 => by rw [if_neg (by omega)]; simp [Addr.add]; omega, fun W => ?_⟩
  rw [run_sliceAt_slice W 23 _ _ _ _ Tryd.underlying23, run_slice_l W 23 _ _ _ Tryd.underlying23 .i64 _ (by omega) (by omega)]
  have hs : (sizeOf (Tryd.prog.elem 23)).run Tryd.prog W = .ok 7 W := by kernel_rfl
  rw [hs]
  by_cases e : c = k <;> simp [Result.andThen, sliced, e]
end Go.Proofs.YthdogpahkglaoaaDoor
