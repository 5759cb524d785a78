/- What the calls of the law do. -/
import Derived.Test.YthdogpahkglaoaaDoorBcf
import Derived.Test.YthdogpahkglaoaaDoorBc9
set_option linter.unusedVariables false
set_option linter.unusedSimpArgs false
namespace Go.Proofs.YthdogpahkglaoaaDoor
open Go.RowKit
theorem kdC_num (c : Int) (h : 0 ≤ c ∧ c ≤ 4) : kdOk (zk c) := by
  have e : c = 0 ∨ c = 1 ∨ c = 2 ∨ c = 3 ∨ c = 4 := by omega
  rcases e with rfl | rfl | rfl | rfl | rfl
  · exact .inl rfl
  · exact .inl rfl
  · exact .inl rfl
  · exact .inr ⟨rfl, by decide +kernel⟩
  · exact .inl rfl
theorem kd_ne (c : Int) (h : 0 ≤ c ∧ c ≤ 4) : ((zk c).kd == 0) = false := by rcases kdC_num c h with e | ⟨e, -⟩ <;> rw [e] <;> rfl
theorem tkEq_zk (a b : Int) (ha : 0 ≤ a ∧ a ≤ 4) (hb : 0 ≤ b ∧ b ≤ 4) : tkEq (zk a) (zk b) = decide (a = b) := by
  have e : a = 0 ∨ a = 1 ∨ a = 2 ∨ a = 3 ∨ a = 4 := by omega
  have f : b = 0 ∨ b = 1 ∨ b = 2 ∨ b = 3 ∨ b = 4 := by omega
  rcases e with rfl | rfl | rfl | rfl | rfl <;> rcases f with rfl | rfl | rfl | rfl | rfl <;> decide +kernel
theorem kMin_zk (a b c d : Int) (ha : 0 ≤ a ∧ a ≤ 4) (hb : 0 ≤ b ∧ b ≤ 4) (hc : 0 ≤ c ∧ c ≤ 4) (hd : 0 ≤ d ∧ d ≤ 4) : kMin (zk a) (zk b) (zk c) (zk d) = minN a b c d := by
  unfold kMin minN
  rw [tkEq_zk d b hd hb, tkEq_zk c a hc ha, tkEq_zk b a hb ha]
  simp only [decide_eq_true_eq]
  by_cases h1 : d = b
  · by_cases h2 : c = a
    · by_cases h3 : b = a
      · rw [if_pos h1, if_pos h2, if_pos h3, if_pos ⟨h3, h2, h1.trans h3⟩]
      · rw [if_pos h1, if_pos h2, if_neg h3, if_neg (fun h => h3 h.1), if_pos ⟨h2, h1⟩]
    · rw [if_pos h1, if_neg h2, if_neg (fun h => h2 h.2.1), if_neg (fun h => h2 h.1), if_pos h1]
  · rw [if_neg h1, if_neg (fun h => h1 (h.2.2.trans h.1.symm)), if_neg (fun h => h1 h.2), if_neg h1]
theorem pick_zk (a b c d : Int) (i : Nat) : pick4 (zk a) (zk b) (zk c) (zk d) i = zk (qI a b c d i) := by
  unfold pick4 qI
  repeat' split
  all_goals rfl
theorem comp_z (b R n0 n c : Nat) (hn0 : n0 ≤ n) (F : Nat → Cn) (p : Nat → Int) (imp m : Bool) (D : Nat → Value) (L : Nat → Int) (ix : Nat → Nat) (lo len : Int) (w : World) (h : Trk w b F imp) (hR : Rul w R n D L) (hbR : b ≠ R) (hn : n ≤ 4096)
    (hF : ∀ i, i < 4 → (F i).t1 = zk (p i) ∧ (F i).t2 = zk (p i) ∧ (F i).st = 0 ∧ (F i).un = ⟨#[]⟩ ∧ (F i).ix = ix i ∧ ix i < n0) (hp : ∀ i, i < 4 → 0 ≤ p i ∧ p i ≤ 4) :
    Calls Tryd.prog 26 #[.pointer (some ⟨b, 0, none⟩), .slice (some ⟨R, 0, none⟩) n0 c, .agg #[.int .i32 lo, .int .i32 len], .bool m] w (CompP R n (minN (p 0) (p 1) (p 2) (p 3)) (fun i => { zk (qI (p 0) (p 1) (p 2) (p 3) i) with ws := wsF i (minN (p 0) (p 1) (p 2) (p 3)) m }) ix D L lo len imp w) := by
  have p0 := hp 0 (by omega); have p1 := hp 1 (by omega); have p2 := hp 2 (by omega); have p3 := hp 3 (by omega)
  have f0 := hF 0 (by omega); have f1 := hF 1 (by omega); have f2 := hF 2 (by omega); have f3 := hF 3 (by omega)
  have hk := kMin_zk (p 0) (p 1) (p 2) (p 3) p0 p1 p2 p3
  have := comp_c b R n0 n c hn0 F imp m D L ix lo len w h hR hbR hn (fun i hi => ⟨(hF i hi).2.2.2.2.2, (hF i hi).2.2.2.2.1⟩) (fun i hi => by rw [(hF i hi).1]; exact kd_ne _ (hp i hi)) (fun i hi => ⟨(hF i hi).2.2.1, (hF i hi).2.2.2.1⟩) (fun i hi => by rw [(hF i hi).1, (hF i hi).2.1]; exact ⟨rfl, rfl⟩)
    (minN (p 0) (p 1) (p 2) (p 3)) (minN (p 0) (p 1) (p 2) (p 3)) (by rw [f0.1, f1.1, f2.1, f3.1]; exact hk.symm) (by rw [f0.2.1, f1.2.1, f2.2.1, f3.2.1]; exact hk.symm)
    (by
      rw [f0.1, f1.1, f2.1, f3.1, f0.2.1, f1.2.1, f2.2.1, f3.2.1]
      exact lEq_yes (fun i hi => by unfold tkEq; simp))
  rw [f0.1, f1.1, f2.1, f3.1] at this
  simp only [pick_zk] at this
  exact this
/-- the corners that a shorthand of codes q lays -/
def shF (q : Nat → Int) (n : Nat) : Nat → Cn := fun k => ⟨zk (q k), zk (q k), ⟨#[]⟩, 0, (n : Int) - 1, false⟩
/-- a longhand's corner -/
def lhC (x : Int) (n : Nat) : Cn := ⟨zk x, zk x, ⟨#[]⟩, 0, (n : Int) - 1, true⟩
/-- a merge's end -/
structure DoneP (W : World) (b R nr k : Nat) (F : Nat → Cn) (G : Nat → Tk) (imp : Bool) (D : Nat → Value) (L : Nat → Int) (lo len : Int) (Q T cc : Nat) (w' : World) : Prop where
  trk : Trk w' b F imp
  rul : Rul w' R nr D L
  only : Only (fun z => z = b ∨ z = R) W w'
  qn : W.heap.size ≤ Q
  tn : W.heap.size ≤ T
  dcl : Seg w' Q 0 (dcL ktB (.slice (some ⟨T, 0, none⟩) k cc) lo len 66 imp)
  tok : ∀ i, i < k → TAt w' T (i * 7) (G i)
  obj : w'.heap[Q]? = some (.cells (dcL ktB (.slice (some ⟨T, 0, none⟩) k cc) lo len 66 imp).toArray 39)
def DoneE (W : World) (b R nr k : Nat) (F : Nat → Cn) (G : Nat → Tk) (imp : Bool) (D : Nat → Nat → Value) (L : Nat → Int) (lo len : Int) (e : Ending) (w' : World) : Prop := e = .returned (.tuple #[]) ∧ ∃ Q T cc, DoneP W b R nr k F G imp (D Q) L lo len Q T cc w'
theorem xq4 (q : Nat → Int) (k : Nat) (hk : k < 4) : xq 4 (fun i => zk (q i)) k = zk (q k) := by
  match k, hk with
  | 0, _ => rfl
  | 1, _ => rfl
  | 2, _ => rfl
  | 3, _ => rfl
theorem done_of {W w1 w' : World} {b R nr k : Nat} {F : Nat → Cn} {G : Nat → Tk} {imp : Bool} {D : Nat → Value} {L : Nat → Int} {ix : Nat → Nat} {lo len : Int} {e : Ending} (hbR : b ≠ R) (ht : Trk w1 b F imp) (ho : Only (fun z => z = b ∨ z = R) W w1) (h : CompP R nr k G ix D L lo len imp w1 e w') : DoneE W b R nr k F G imp (finD ix D) (finL ix L) lo len e w' := by
  obtain ⟨he, T, cc, Q, hT, hQ, hr, hs, hk, hO, hobj⟩ := h
  exact ⟨he, Q, T, cc, ht.only hO hbR, hr, ho.trans (hO.wide (fun _ q => .inr q)), Nat.le_trans ho.size hQ, Nat.le_trans ho.size hT, hs, hk, hobj⟩
/-- the shorthand's call -/
theorem sh_c (b R n nr c Dd T cc : Nat) (F : Nat → Cn) (imp0 imp m : Bool) (q : Nat → Int) (kt : ByteArray) (lo len key : Int) (Dk : Nat → Nat → Value) (Lk : Nat → Nat → Int) (w : World) (h : Trk w b F imp0) (hFr : imp0 = imp ∨ F = fun _ => Cn0) (hR : Rul w R nr (Dk 0) (Lk 0)) (hD : Seg w Dd 0 (dcL kt (.slice (some ⟨T, 0, none⟩) 4 cc) lo len key imp)) (ht : ∀ i, i < 4 → Seg w T (i * 7) (tkL (zk (q i)))) (hq : ∀ i, i < 4 → 0 ≤ q i ∧ q i ≤ 4)
    (hcc : 4 ≤ cc) (hn1 : 1 ≤ n) (hnr : n ≤ nr) (hnr2 : nr ≤ 4096) (hbR : b ≠ R) (hbD : b ≠ Dd) (hbT : b ≠ T) (hDR : Dd ≠ R)
    (hU : ∀ k, k < 4 → UpR F k n nr (shF q n k) (Dk k) (Dk (k + 1)) (Lk k) (Lk (k + 1))) :
    Calls Tryd.prog 18 #[.pointer (some ⟨b, 0, none⟩), .slice (some ⟨R, 0, none⟩) n c, .pointer (some ⟨Dd, 0, none⟩), .bool m] w (DoneE w b R nr (minN (q 0) (q 1) (q 2) (q 3)) (shF q n) (fun i => { zk (qI (q 0) (q 1) (q 2) (q 3) i) with ws := wsF i (minN (q 0) (q 1) (q 2) (q 3)) m }) imp (finD (fun _ => n - 1) (Dk 4)) (finL (fun _ => n - 1) (Lk 4)) lo len) := by
  have e : ∀ k, k < 4 → (⟨xq 4 (fun i => zk (q i)) k, xq 4 (fun i => zk (q i)) k, ⟨#[]⟩, 0, (n : Int) - 1, false⟩ : Cn) = shF q n k := fun k hk => by rw [xq4 q k hk]; rfl
  refine (mcs_g b R n nr c Dd T cc 4 F imp0 imp m (fun i => zk (q i)) kt lo len key (Dk 0) (Lk 0) Dk Lk
    (CompP R nr (minN (q 0) (q 1) (q 2) (q 3)) (fun i => { zk (qI (q 0) (q 1) (q 2) (q 3) i) with ws := wsF i (minN (q 0) (q 1) (q 2) (q 3)) m }) (fun _ => n - 1) (Dk 4) (Lk 4) lo len imp) w h hFr hR hD (fun i hi => (ht i hi).tat rfl) (fun i hi => rfl) (fun i hi => kdC_num _ (hq i hi)) (by omega) (by omega) hcc (by omega) hn1 hnr hbR hbD hbT hDR
    (fun k hk => by rw [e k hk]; exact hU k hk)
    (fun w1 t1 r1 o1 => comp_z b R n nr c hnr (shF q n) q imp m (Dk 4) (Lk 4) (fun _ => n - 1) lo len w1 (t1.cg e) r1 hbR hnr2 (fun i hi => ⟨rfl, rfl, rfl, rfl, by show (n : Int) - 1 = ((n - 1 : Nat) : Int); omega, by show n - 1 < n; omega⟩) hq)
    (fun w1 e w' hq => hq.1)).mono ?_
  rintro en w' ⟨w1, ⟨t1, r1, o1⟩, hC⟩
  exact done_of hbR (t1.cg e) o1 hC
/-- the longhand's call that merges -/
theorem lh_c (b R n nr c Dd T cc k : Nat) (q : Nat → Int) (ns : Nat) (imp m : Bool) (x : Int) (kt : ByteArray) (lo len key : Int) (D : Nat → Value) (L : Nat → Int) (ix : Nat → Nat) (w : World) (h : Trk w b (shF q ns) imp) (hR : Rul w R nr D L) (hD : Seg w Dd 0 (dcL kt (.slice (some ⟨T, 0, none⟩) 1 cc) lo len key imp)) (ht : TAt w T 0 (zk x)) (hx : 0 ≤ x ∧ x ≤ 4) (hq : ∀ i, i < 4 → 0 ≤ q i ∧ q i ≤ 4)
    (hk : k < 4) (hn1 : 1 ≤ n) (hns : 1 ≤ ns) (hnsn : ns ≤ n) (hnr : n ≤ nr) (hnr2 : nr ≤ 4096) (hbR : b ≠ R) (hbD : b ≠ Dd) (hbT : b ≠ T) (hDR : Dd ≠ R) (hix : ∀ i, i < 4 → ix i = if i = k then n - 1 else ns - 1) (p : Nat → Int) (hp : ∀ i, p i = if i = k then x else q i) :
    Calls Tryd.prog 17 #[.pointer (some ⟨b, 0, none⟩), .slice (some ⟨R, 0, none⟩) n c, .pointer (some ⟨Dd, 0, none⟩), .bool m, .int .i64 k] w (DoneE w b R nr (minN (p 0) (p 1) (p 2) (p 3)) (upF (shF q ns) k (lhC x n)) (fun i => { zk (qI (p 0) (p 1) (p 2) (p 3) i) with ws := wsF i (minN (p 0) (p 1) (p 2) (p 3)) m }) imp (finD ix D) (finL ix L) lo len) := by
  refine (mc_g b R n nr c Dd T cc k (shF q ns) imp imp m (zk x) kt lo len key D L
    (CompP R nr (minN (p 0) (p 1) (p 2) (p 3)) (fun i => { zk (qI (p 0) (p 1) (p 2) (p 3) i) with ws := wsF i (minN (p 0) (p 1) (p 2) (p 3)) m }) ix D L lo len imp) w h (.inl rfl) hR hD ht rfl (kdC_num x hx) hk (by omega) hn1 hnr hbR hbD hbT hDR (.inr ⟨by
      have := kd_ne (q k) (hq k hk)
      show ((zk (q k)).kd != 0) = true
      simpa [bne] using this, rfl⟩)
    (fun w1 t1 r1 o1 => comp_z b R n nr c hnr (upF (shF q ns) k (lhC x n)) p imp m D L ix lo len w1 t1 r1 hbR hnr2 (fun i hi => by
      unfold upF
      rw [hp i, hix i hi]
      by_cases e : i = k
      · rw [if_pos e, if_pos e, if_pos e]
        exact ⟨rfl, rfl, rfl, rfl, by show (n : Int) - 1 = ((n - 1 : Nat) : Int); omega, by omega⟩
      · rw [if_neg e, if_neg e, if_neg e]
        exact ⟨rfl, rfl, rfl, rfl, by show (ns : Int) - 1 = ((ns - 1 : Nat) : Int); omega, by omega⟩) (fun i hi => by rw [hp i]; split; exact hx; exact hq i hi))
    (fun w1 e w' hq => hq.1)).mono ?_
  rintro en w' ⟨w1, ⟨t1, r1, o1⟩, hC⟩
  exact done_of hbR t1 o1 hC
/-- the longhand's call on a fresh tracker: nothing is merged yet -/
def FreshE (W : World) (b R nr : Nat) (F : Nat → Cn) (imp : Bool) (D : Nat → Value) (L : Nat → Int) (e : Ending) (w' : World) : Prop := e = .returned (.tuple #[]) ∧ Trk w' b F imp ∧ Rul w' R nr D L ∧ Only (fun z => z = b ∨ z = R) W w'
theorem fr_c (b R n nr c Dd T cc k : Nat) (imp0 imp m : Bool) (x : Int) (kt : ByteArray) (lo len key : Int) (D : Nat → Value) (L : Nat → Int) (w : World) (h : Trk w b (fun _ => Cn0) imp0) (hR : Rul w R nr D L) (hD : Seg w Dd 0 (dcL kt (.slice (some ⟨T, 0, none⟩) 1 cc) lo len key imp)) (ht : TAt w T 0 (zk x)) (hx : 0 ≤ x ∧ x ≤ 4)
    (hk : k < 4) (hn1 : 1 ≤ n) (hnr : n ≤ nr) (hnr2 : nr ≤ 4096) (hbR : b ≠ R) (hbD : b ≠ Dd) (hbT : b ≠ T) (hDR : Dd ≠ R) :
    Calls Tryd.prog 17 #[.pointer (some ⟨b, 0, none⟩), .slice (some ⟨R, 0, none⟩) n c, .pointer (some ⟨Dd, 0, none⟩), .bool m, .int .i64 k] w (FreshE w b R nr (upF (fun _ => Cn0) k (lhC x n)) imp D L) := by
  refine (mc_g b R n nr c Dd T cc k (fun _ => Cn0) imp0 imp m (zk x) kt lo len key D L NoP w h (.inr rfl) hR hD ht rfl (kdC_num x hx) hk (by omega) hn1 hnr hbR hbD hbT hDR (.inl rfl)
    (fun w1 t1 r1 o1 => by
      by_cases e : k = 0
      · subst e
        exact comp_no1 b R n c _ imp m lo len w1 t1 (kd_ne x hx) rfl
      · exact comp_no0 b R n c _ imp m lo len w1 t1 (by unfold upF; rw [if_neg (fun h => e h.symm)]; rfl))
    (fun w1 e w' hq => hq.1)).mono ?_
  rintro en w' ⟨w1, ⟨t1, r1, o1⟩, he, hb⟩
  exact ⟨he, t1.after hb, r1.after hb, o1.trans (Only.of hb)⟩
theorem mnF_cg (ix : Nat → Nat) (L L' : Nat → Int) (h : ∀ i, i < 4 → L (ix i) = L' (ix i)) : ∀ i, i ≤ 4 → mnF ix L i = mnF ix L' i
  | 0, _ => rfl
  | i + 1, hi => by
    have e : lF ix L i = lF ix L' i := by unfold lF; rw [h i (by omega)]
    show (if i = 0 ∨ lF ix L i < mnF ix L i then lF ix L i else mnF ix L i) = (if i = 0 ∨ lF ix L' i < mnF ix L' i then lF ix L' i else mnF ix L' i)
    rw [e, mnF_cg ix L L' h i (by omega)]
end Go.Proofs.YthdogpahkglaoaaDoor
