/- FnFlattenMatchesStreamModel: what flattening gives, by folds; how long it is; the collected compounds. -/
import Derived.Test.YtjigljpodkfchadFll
set_option linter.unusedVariables false
set_option linter.unusedSimpArgs false
namespace Go.Proofs.Ytjigljpodkfchad
open Go.RowKit
set_option maxRecDepth 100000
set_option maxHeartbeats 40000000
def ofI (x : Ck ByteArray) : Ck SK := ⟨x.cb, x.ty, x.nn, x.ks.map .inl⟩
def emp (k : Ck SK) : Bool := decide (k.nn = 0) && k.ty.isNone && decide (k.ks.length = 0)
/-- the compounds that are done, and the one under way -/
abbrev St := List (Ck SK) × Ck SK
def addS (st : St) (x : SK) : St := (st.1, ⟨st.2.cb, st.2.ty, st.2.nn, st.2.ks ++ [x]⟩)
def mrg (s : Ck SK) (l : List (Ck ByteArray)) : Ck SK := match l with
  | [] => s
  | t :: _ => if t.cb = 0 then mergeK s t else s
def rst (l : List (Ck ByteArray)) : List (Ck ByteArray) := match l with
  | [] => []
  | t :: r => if t.cb = 0 then r else t :: r
def out1 (s : Ck SK) : List (Ck SK) := if emp s then [] else [s]
def wrapStep (st : St) (l : List (Ck ByteArray)) : St := match (rst l).getLast? with
  | none => (st.1, mrg st.2 l)
  | some z => (st.1 ++ out1 (mrg st.2 l) ++ (rst l).dropLast.map ofI, ofI z)
def subStep (st : St) (x : SK) : St := if isLg x then (match x with
  | .inl _ => st
  | .inr (_, l) => wrapStep st l) else addS st x
def newC (c : Ck SK) : Ck SK := ⟨c.cb, c.ty, c.nn, []⟩
def compEnd (st : St) : List (Ck SK) := st.1 ++ out1 st.2
def compStep (acc : List (Ck SK)) (c : Ck SK) : List (Ck SK) := compEnd (c.ks.foldl subStep (acc, newC c))
def flatK (l : List (Ck SK)) : List (Ck SK) := l.foldl compStep []
def wI (l : List (Ck ByteArray)) : Nat := (l.map (fun y => 1 + y.ks.length)).sum
def wt (x : SK) : Nat := match x with
  | .inl _ => 1
  | .inr (_, l) => 1 + wI l
def wS (ks : List SK) : Nat := (ks.map wt).sum
def tot (l : List (Ck SK)) : Nat := (l.map (fun c => 1 + wS c.ks)).sum
def sz (st : St) : Nat := st.1.length + st.2.ks.length
theorem wI_len (l : List (Ck ByteArray)) : l.length ≤ wI l := by
  induction l with
  | nil => exact Nat.le_refl _
  | cons t r ih => simp only [wI, List.map_cons, List.sum_cons, List.length_cons] at *; omega
theorem wI_app (l m : List (Ck ByteArray)) : wI (l ++ m) = wI l + wI m := by simp [wI]
theorem wI_one (x : Ck ByteArray) : wI [x] = 1 + x.ks.length := by simp [wI]
theorem wI_cons (x : Ck ByteArray) (l : List (Ck ByteArray)) : wI (x :: l) = 1 + x.ks.length + wI l := by simp [wI]
theorem wI_rst (l : List (Ck ByteArray)) : wI (rst l) ≤ wI l := by
  cases l with
  | nil => exact Nat.le_refl _
  | cons t r => unfold rst; simp only; split <;> simp only [wI_cons] <;> omega
theorem mIs_len (s x : Option ByteArray) : (mIs s x).length ≤ 1 := by
  unfold mIs; split <;> simp
theorem mergeK_len (s : Ck SK) (x : Ck ByteArray) : (mergeK s x).ks.length ≤ s.ks.length + 1 + x.ks.length := by
  have := mIs_len s.ty x.ty
  simp only [mergeK, List.length_append, List.length_map]
  omega
theorem mrg_len (s : Ck SK) (l : List (Ck ByteArray)) : (mrg s l).ks.length ≤ s.ks.length + wI l := by
  cases l with
  | nil => exact Nat.le_add_right _ _
  | cons t r =>
    have := mergeK_len s t
    unfold mrg; simp only [wI_cons]; split <;> omega
theorem out1_len (s : Ck SK) : (out1 s).length ≤ 1 := by unfold out1; split <;> simp
theorem last_cases {α : Type} (l : List α) : (l.getLast? = none ∧ l = []) ∨ ∃ z, l.getLast? = some z ∧ l = l.dropLast ++ [z] := by
  cases l with
  | nil => exact .inl ⟨rfl, rfl⟩
  | cons t r => exact .inr ⟨(t :: r).getLast (by simp), List.getLast?_eq_some_getLast (by simp), (List.dropLast_concat_getLast (by simp)).symm⟩
theorem wrap_sz (st : St) (l : List (Ck ByteArray)) : sz (wrapStep st l) ≤ sz st + wI l := by
  unfold wrapStep
  rcases last_cases (rst l) with ⟨e, -⟩ | ⟨z, e, e2⟩
  · rw [e]
    have := mrg_len st.2 l
    simp only [sz]; omega
  · rw [e]
    have h1 := wI_rst l
    rw [e2, wI_app, wI_one] at h1
    have h2 := wI_len (rst l).dropLast
    have h3 := out1_len (mrg st.2 l)
    simp only [sz, List.length_append, List.length_map, ofI]
    omega
theorem sub_sz (st : St) (x : SK) : sz (subStep st x) ≤ sz st + wt x := by
  unfold subStep
  split
  · cases x with
    | inl _ => simp only [wt]; omega
    | inr q => have := wrap_sz st q.2; simp only [wt] at *; omega
  · have : 1 ≤ wt x := by cases x <;> simp only [wt] <;> omega
    simp only [sz, addS, List.length_append, List.length_singleton]; omega
theorem fold_sz (ks : List SK) : ∀ st : St, sz (ks.foldl subStep st) ≤ sz st + wS ks := by
  induction ks with
  | nil => exact fun st => Nat.le_add_right _ _
  | cons x r ih => intro st; have := ih (subStep st x); have := sub_sz st x; simp only [List.foldl_cons, wS, List.map_cons, List.sum_cons] at *; omega
theorem comp_len (acc : List (Ck SK)) (c : Ck SK) : (compStep acc c).length ≤ acc.length + (1 + wS c.ks) := by
  have h1 := fold_sz c.ks (acc, newC c)
  have h2 := out1_len (c.ks.foldl subStep (acc, newC c)).2
  simp only [compStep, compEnd, List.length_append, sz, newC, List.length_nil] at *
  omega
theorem flat_fold_len (l : List (Ck SK)) : ∀ acc : List (Ck SK), (l.foldl compStep acc).length ≤ acc.length + tot l := by
  induction l with
  | nil => exact fun acc => Nat.le_add_right _ _
  | cons c r ih => intro acc; have := ih (compStep acc c); have := comp_len acc c; simp only [List.foldl_cons, tot, List.map_cons, List.sum_cons] at *; omega
theorem sum_take {α : Type} (f : α → Nat) : ∀ (l : List α) (j : Nat) (x : α), l[j]? = some x → ((l.take j).map f).sum + f x ≤ (l.map f).sum
  | [], _, _, h => by simp at h
  | a :: l, 0, x, h => by simp only [List.getElem?_cons_zero, Option.some.injEq] at h; subst h; simp
  | a :: l, j + 1, x, h => by
    have := sum_take f l j x (by simpa using h)
    simp only [List.take_succ_cons, List.map_cons, List.sum_cons]; omega
theorem foldl_take {α β : Type} (f : β → α → β) (b : β) {l : List α} {j : Nat} {x : α} (h : l[j]? = some x) : (l.take (j + 1)).foldl f b = f ((l.take j).foldl f b) x := by
  rw [List.take_add_one, h]; simp
theorem foldl_all {α β : Type} (f : β → α → β) (b : β) {l : List α} {j : Nat} (h : l.length ≤ j) : (l.take j).foldl f b = l.foldl f b := by rw [List.take_of_length_le h]
/-- what is bounded by the law's premise, at sub j of compound i -/
theorem sz_at {l : List (Ck SK)} {i j : Nat} {c : Ck SK} {x : SK} (hc : l[i]? = some c) (hx : c.ks[j]? = some x) : sz ((c.ks.take j).foldl subStep ((l.take i).foldl compStep [], newC c)) + wt x + 1 ≤ tot l := by
  have h1 := fold_sz (c.ks.take j) ((l.take i).foldl compStep [], newC c)
  have h2 := sum_take wt c.ks j x hx
  have h3 := flat_fold_len (l.take i) []
  have h4 := sum_take (fun c : Ck SK => 1 + wS c.ks) l i c hc
  simp only [sz, newC, List.length_nil, wS, tot] at *
  omega
theorem sz_end {l : List (Ck SK)} {i : Nat} {c : Ck SK} (hc : l[i]? = some c) : sz (c.ks.foldl subStep ((l.take i).foldl compStep [], newC c)) + 1 ≤ tot l := by
  have h1 := fold_sz c.ks ((l.take i).foldl compStep [], newC c)
  have h3 := flat_fold_len (l.take i) []
  have h4 := sum_take (fun c : Ck SK => 1 + wS c.ks) l i c hc
  simp only [sz, newC, List.length_nil, wS, tot] at *
  omega
theorem flat_one6 {rs : List MR} (h : ∀ r ∈ rs, r.tv.oneCell' = true ∧ r.sv.oneCell' = true ∧ r.nv.oneCell' = true) : ∀ u ∈ flat MR.cells rs, u.oneCell' = true := fun u hu => by
  simp only [flat, List.mem_flatMap] at hu
  obtain ⟨s, hs, hu⟩ := hu
  obtain ⟨h1, h2, h3⟩ := h s hs
  simp only [MR.cells, List.mem_cons, List.not_mem_nil, or_false] at hu
  rcases hu with rfl | rfl | rfl | rfl | rfl | rfl
  · exact h1
  · exact h2
  · exact h3
  all_goals rfl
theorem flat_len6 (ls : List MR) : (flat MR.cells ls).length = ls.length * 6 := flat_len MR.cells 6 (fun _ => rfl) ls
/-- the collected compounds: none of their blocks lies in O or is their row -/
def AccX (M : Nat) (O : Nat → Prop) (w : World) (v : Value) (n : Nat) (rs : List MR) (acc : List (Ck SK)) : Prop := w.ownsRow M 102 6 v n (flat MR.cells rs) ∧ rs.length = n ∧ acc.length = n ∧ (∀ b, Ob v b → ¬ O b) ∧ ∀ (j : Nat) r x, rs[j]? = some r → acc[j]? = some x → RCk G1 (fun b => Ob v b ∨ O b) w r x
theorem AccX.keep {M : Nat} {O O' S : Nat → Prop} {w w' : World} {v : Value} {n : Nat} {rs : List MR} {acc : List (Ck SK)} (h : AccX M O w v n rs acc) (hk : Kp S w w') (hs : ∀ b, b < w.heap.size → S b → O b) (ho : ∀ b, b < w.heap.size → O' b → O b) : AccX M O' w' v n rs acc := by
  obtain ⟨h1, h2, h3, h4, h5⟩ := h
  exact ⟨hk.own h1 (fun b q e => h4 b q (hs b (h1.lt b q).2 e)), h2, h3, fun b q e => h4 b q (ho b (h1.lt b q).2 e), fun j r x hr hx => (h5 j r x hr hx).keep G1.keep hk (fun b hb q => .inr (hs b hb q)) (fun b hb q => q.imp id (ho b hb))⟩
theorem AccX.push {M m : Nat} {O : Nat → Prop} {w w8 : World} {v v' : Value} {n : Nat} {rs news : List MR} {acc accN : List (Ck SK)} (h : AccX M O w v n rs acc) (hm : news.length = m) (hm2 : accN.length = m) (hN : ∀ (j : Nat) r x, news[j]? = some r → accN[j]? = some x → RCk G1 (fun b => Ob v b ∨ O b) w r x) (hO : w8.ownsRow M 102 6 v' (n + m) (flat MR.cells rs ++ flat MR.cells news)) (hk : Kp (Ob v) w w8) (hn : ∀ b, Ob v' b → Ob v b ∨ w.heap.size ≤ b) (hOl : ∀ b, O b → b < w.heap.size) : AccX M O w8 v' (n + m) (rs ++ news) (acc ++ accN) := by
  obtain ⟨h1, h2, h3, h4, h5⟩ := h
  have ho : ∀ b, b < w.heap.size → (Ob v' b ∨ O b) → (Ob v b ∨ O b) := fun b hb q => by
    rcases q with q | q
    · rcases hn b q with q | q
      · exact .inl q
      · omega
    · exact .inr q
  refine ⟨by rw [show flat MR.cells (rs ++ news) = flat MR.cells rs ++ flat MR.cells news by simp [flat]]; exact hO, by simp [h2, hm], by simp [h3, hm2], fun b q e => ?_, fun j r x hr hx => ?_⟩
  · rcases hn b q with q | q
    · exact h4 b q e
    · have := hOl b e; omega
  · by_cases hj : j < n
    · rw [List.getElem?_append_left (by omega)] at hr hx
      exact (h5 j r x hr hx).keep G1.keep hk (fun b _ q => .inl q) ho
    · rw [List.getElem?_append_right (by omega)] at hr hx
      rw [h2] at hr
      rw [h3] at hx
      exact (hN (j - n) r x hr hx).keep G1.keep hk (fun b _ q => .inl q) ho
theorem RCk.up {O : Nat → Prop} {w : World} {r : MR} {x : Ck ByteArray} (h : RCk Gn O w r x) : RCk G1 O w r (ofI x) := by
  obtain ⟨h1, h2, h3, ls, h4, h5, h6, h7⟩ := h
  refine ⟨h1, h2, h3, ls.map upS, by rw [flat_upS, List.length_map]; exact h4, h5, fun s hs => ?_, by show _ = x.ks.map (Sum.inl : ByteArray → SK); rw [← h7]; simp only [List.map_map]; rfl⟩
  obtain ⟨q, hq, rfl⟩ := List.mem_map.1 hs
  exact h6 q hq
theorem RCk.wide {K : Type} {G : (Nat → Prop) → World → SubR K → Prop} (hG : KeepP G) {O O' : Nat → Prop} {w : World} {r : MR} {k : Ck K} (h : RCk G O w r k) (ho : ∀ b, b < w.heap.size → O' b → O b) : RCk G O' w r k := h.keep hG (S := fun _ => False) (Kp.refl _) (fun _ _ q => q.elim) ho
end Go.Proofs.Ytjigljpodkfchad
