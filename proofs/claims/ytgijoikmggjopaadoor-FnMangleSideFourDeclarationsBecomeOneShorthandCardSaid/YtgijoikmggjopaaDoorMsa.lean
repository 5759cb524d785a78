/- FnMangleSide: how the law's world stands. -/
import Derived.Test.YtgijoikmggjopaaDoorMs9
import Derived.Test.YtgijoikmggjopaaDoorRl
set_option linter.unusedVariables false
set_option linter.unusedSimpArgs false
namespace Go.Proofs.YtgijoikmggjopaaDoor
open Go.RowKit
theorem TAt.only {S : Nat → Prop} {w w' : World} {T o : Nat} {t : Tk} (h : TAt w T o t) (ho : Only S w w') (hs : ¬ S T) : TAt w' T o t :=
  ⟨ho.keep h.c0 hs, ho.keep h.c1 hs, ho.keep h.c2 hs, ho.keep h.c3 hs, ho.keep h.c4 hs, ho.keep h.c5 hs, ho.keep h.c6 hs⟩
def Dn (Q : Nat → Nat) (i j : Nat) : Value := if j < i then .iface 32 (.pointer (some ⟨Q j, 0, none⟩)) else .nilIface
def Ln (l : Nat → Int) (i j : Nat) : Int := if j < i then l j else 0
def upN (Q : Nat → Nat) (i v : Nat) : Nat → Nat := fun j => if j = i then v else Q j
/-- the first i declarations -/
structure Decs (n0 : Nat) (wr : World) (DS : Nat) (x l : Nat → Int) (p : Nat → Nat) (kt : ByteArray) (imp : Bool) (i : Nat) (Q T : Nat → Nat) : Prop where
  ds : ∀ j, j < i → wr.cell? ⟨DS, j, none⟩ = some (.pointer (some ⟨Q j, 0, none⟩))
  dl : ∀ j, j < i → Seg wr (Q j) 0 (dcL kt (.slice (some ⟨T j, 0, none⟩) 1 1) (l j) 0 0 imp)
  tk : ∀ j, j < i → TAt wr (T j) 0 (zk (x (p j)) (l j))
  ge : ∀ j, j < i → n0 ≤ Q j ∧ n0 ≤ T j
structure MI (W0 : World) (b R DS TL : Nat) (x l : Nat → Int) (p : Nat → Nat) (kt : ByteArray) (imp : Bool) (i : Nat) (lf : Int) (wr : World) : Prop where
  lft : ∀ j, j < i → p j = 3 → lf = j
  tl : ∀ j, j < i → wr.cell? ⟨TL, p j, none⟩ = some (.int .i32 (l j))
  rtl : Room wr TL 4
  rds : Room wr DS 4
  dec : ∃ Q T : Nat → Nat, Decs W0.heap.size wr DS x l p kt imp i Q T ∧ Rul wr R 4 (Dn Q i) (Ln l i)
  only : Only (fun z => z = b ∨ z = R ∨ z = DS ∨ z = TL) W0 wr
/-- the blocks are not one another -/
structure Dist (n0 b R DS TL : Nat) : Prop where
  bR : b < R
  RD : R < DS
  DT : DS < TL
  Tn : TL < n0
theorem MI.bset {W0 : World} {b R DS TL : Nat} {x l : Nat → Int} {p : Nat → Nat} {kt : ByteArray} {imp : Bool} {i : Nat} {lf : Int} {V V' : World} (h : MI W0 b R DS TL x l p kt imp i lf V) (hd : Dist W0.heap.size b R DS TL) (ho : Only (fun z => z = b) V V') : MI W0 b R DS TL x l p kt imp i lf V' := by
  obtain ⟨Q, T, hD, hR⟩ := h.dec
  have h1 := hd.bR
  have h2 := hd.RD
  have h3 := hd.DT
  have h4 := hd.Tn
  exact ⟨h.lft, fun j hj => ho.keep (h.tl j hj) (by show ¬ TL = b; omega), ho.room h.rtl (by omega), ho.room h.rds (by omega), ⟨Q, T, ⟨fun j hj => ho.keep (hD.ds j hj) (by show ¬ DS = b; omega), fun j hj => (hD.dl j hj).only ho (by have := hD.ge j hj; omega), fun j hj => (hD.tk j hj).only ho (by have := hD.ge j hj; omega), hD.ge⟩, hR.only ho (by omega)⟩, h.only.trans (ho.wide (fun _ e => .inl e))⟩
theorem MI.step {W0 : World} {b R DS TL : Nat} {x l : Nat → Int} {p : Nat → Nat} {kt : ByteArray} {imp : Bool} {i : Nat} {lf lf' : Int} {w1 V1 V3 V4 V5 : World} {Qn Tn : Nat} (h : MI W0 b R DS TL x l p kt imp i lf w1) (hd : Dist W0.heap.size b R DS TL) (hi : i < 4) (hp : ∀ j, j ≤ i → p j < 4) (hpi : ∀ j, j < i → p j ≠ p i) (hlf : lf' = if p i = 3 then (i : Int) else lf)
    (e1 : V1 = w1.setCell ⟨TL, p i, none⟩ (.int .i32 (l i))) (e3 : Below V1.heap.size V1 V3) (e4 : V4 = V3.setCell ⟨DS, i, none⟩ (.pointer (some ⟨Qn, 0, none⟩))) (e5 : V5 = (V4.setCell ⟨R, i * 2, none⟩ (.iface 32 (.pointer (some ⟨Qn, 0, none⟩)))).setCell ⟨R, i * 2 + 1, none⟩ (.int .i32 (l i)))
    (hQ : V1.heap.size ≤ Qn) (hT : V1.heap.size ≤ Tn) (hdl : Seg V3 Qn 0 (dcL kt (.slice (some ⟨Tn, 0, none⟩) 1 1) (l i) 0 0 imp)) (htk : TAt V3 Tn 0 (zk (x (p i)) (l i))) :
    MI W0 b R DS TL x l p kt imp (i + 1) lf' V5 ∧ Only (fun z => z = R ∨ z = DS ∨ z = TL) w1 V5 ∧ Seg V5 Qn 0 (dcL kt (.slice (some ⟨Tn, 0, none⟩) 1 1) (l i) 0 0 imp) ∧ TAt V5 Tn 0 (zk (x (p i)) (l i)) := by
  obtain ⟨Q, T, hD, hR⟩ := h.dec
  have h1 := hd.bR
  have h2 := hd.RD
  have h3 := hd.DT
  have h4 := hd.Tn
  have o1 : Only (fun z => z = TL) w1 V1 := by rw [e1]; exact (Only.refl _).set _ _ rfl
  have o3 : Only (fun z => z = TL) w1 V3 := o1.trans (Only.of e3)
  have o4 : Only (fun z => z = DS) V3 V4 := by rw [e4]; exact (Only.refl _).set _ _ rfl
  have o5 : Only (fun z => z = R) V4 V5 := by rw [e5]; exact ((Only.refl (S := fun z => z = R) V4).set _ _ rfl).set _ _ rfl
  have oA : Only (fun z => z = R ∨ z = DS ∨ z = TL) w1 V5 := ((o3.wide (fun _ e => .inr (.inr e))).trans (o4.wide (fun _ e => .inr (.inl e)))).trans (o5.wide (fun _ e => .inl e))
  have hs0 : W0.heap.size ≤ w1.heap.size := h.only.size
  have hs1 : w1.heap.size ≤ V1.heap.size := o1.size
  have hs3 := o3.size
  obtain ⟨vd, cd, fd⟩ := o3.room h.rds (by omega) i hi
  obtain ⟨vt, ct, ft⟩ := h.rtl (p i) (hp i (Nat.le_refl _))
  have hR4 : Rul V4 R 4 (Dn Q i) (Ln l i) := (hR.only o3 (by omega)).only o4 (by omega)
  have hR5 : Rul V5 R 4 (fun j => if j = i then .iface 32 (.pointer (some ⟨Qn, 0, none⟩)) else Dn Q i j) (fun j => if j = i then l i else Ln l i j) := by rw [e5]; exact hR4.set hi _ _
  have sQ : Seg V5 Qn 0 (dcL kt (.slice (some ⟨Tn, 0, none⟩) 1 1) (l i) 0 0 imp) := (hdl.only o4 (by omega)).only o5 (by omega)
  have sT : TAt V5 Tn 0 (zk (x (p i)) (l i)) := (htk.only o4 (by omega)).only o5 (by omega)
  refine ⟨⟨fun j hj h3 => ?_, fun j hj => ?_, oA.rooms _ _ h.rtl, oA.rooms _ _ h.rds, ⟨upN Q i Qn, upN T i Tn, ⟨fun j hj => ?_, fun j hj => ?_, fun j hj => ?_, fun j hj => ?_⟩, ⟨fun j hj => ?_, fun j hj => ?_, hR5.room⟩⟩, h.only.trans (oA.wide (fun _ e => .inr e))⟩, oA, sQ, sT⟩
  · rw [hlf]
    by_cases e : j = i
    · subst e; rw [if_pos h3]
    · rw [if_neg (fun e3 => hpi j (by omega) (h3.trans e3.symm))]; exact h.lft j (by omega) h3
  · have : V1.cell? ⟨TL, p j, none⟩ = some (.int .i32 (l j)) := by
      rw [e1]
      by_cases e : j = i
      · subst e; exact cs ct
      · rw [co (by intro q; injection q with _ q; exact hpi j (by omega) q.symm)]; exact h.tl j (by omega)
    exact o5.keep (o4.keep (ac e3 this) (by show ¬ TL = DS; omega)) (by show ¬ TL = R; omega)
  · unfold upN
    have : V4.cell? ⟨DS, j, none⟩ = some (.pointer (some ⟨if j = i then Qn else Q j, 0, none⟩)) := by
      rw [e4]
      by_cases e : j = i
      · subst e; rw [if_pos rfl]; exact cs cd
      · rw [if_neg e, co (by intro q; injection q; omega)]; exact o3.keep (hD.ds j (by omega)) (by show ¬ DS = TL; omega)
    exact o5.keep this (by show ¬ DS = R; omega)
  · unfold upN
    by_cases e : j = i
    · subst e; simp only [if_true]; exact sQ
    · simp only [if_neg e]; exact (hD.dl j (by omega)).only oA (by have := hD.ge j (by omega); omega)
  · unfold upN
    by_cases e : j = i
    · subst e; simp only [if_true]; exact sT
    · simp only [if_neg e]; exact (hD.tk j (by omega)).only oA (by have := hD.ge j (by omega); omega)
  · unfold upN
    by_cases e : j = i
    · subst e; simp only [if_true]; exact ⟨by omega, by omega⟩
    · simp only [if_neg e]; exact hD.ge j (by omega)
  · rw [hR5.d j hj]
    congr 1
    unfold Dn upN
    by_cases e : j = i
    · subst e; rw [if_pos rfl, if_pos rfl, if_pos (by omega)]
    · rw [if_neg e, if_neg e]
      by_cases e2 : j < i
      · rw [if_pos e2, if_pos (by omega)]
      · rw [if_neg e2, if_neg (by omega)]
  · rw [hR5.l j hj]
    congr 2
    unfold Ln
    by_cases e : j = i
    · subst e; rw [if_pos rfl, if_pos (by omega)]
    · rw [if_neg e]
      by_cases e2 : j < i
      · rw [if_pos e2, if_pos (by omega)]
      · rw [if_neg e2, if_neg (by omega)]
/-- compacted -/
structure DN (W0 : World) (b R DS TL : Nat) (x l : Nat → Int) (p q : Nat → Nat) (kt : ByteArray) (imp m : Bool) (ky : Int) (lf : Int) (wr : World) : Prop where
  lft : ∀ j, j < 4 → p j = 3 → lf = j
  tl : ∀ j, j < 4 → wr.cell? ⟨TL, p j, none⟩ = some (.int .i32 (l j))
  gone : ∀ j, j < 4 → j ≠ q 3 → wr.cell? ⟨R, j * 2, none⟩ = some .nilIface ∧ wr.cell? ⟨R, j * 2 + 1, none⟩ = some (.int .i32 0)
  new : ∃ Q T cc, wr.cell? ⟨R, q 3 * 2, none⟩ = some (.iface 32 (.pointer (some ⟨Q, 0, none⟩))) ∧ wr.cell? ⟨R, q 3 * 2 + 1, none⟩ = some (.int .i32 (mn4 (l 0) (l 1) (l 2) (l 3))) ∧ Seg wr Q 0 (dcL kt (.slice (some ⟨T, 0, none⟩) (minN (x 0) (x 1) (x 2) (x 3)) cc) (l 3) 0 ky imp) ∧ (∀ i, i < minN (x 0) (x 1) (x 2) (x 3) → TAt wr T (i * 7) { zk (qI (x 0) (x 1) (x 2) (x 3) i) (qI (l (q 0)) (l (q 1)) (l (q 2)) (l (q 3)) i) with ws := wsF i (minN (x 0) (x 1) (x 2) (x 3)) m })
  only : Only (fun z => z = b ∨ z = R ∨ z = DS ∨ z = TL) W0 wr
theorem DN.mk' {W0 : World} {b R DS TL : Nat} {x l : Nat → Int} {p q : Nat → Nat} {kt : ByteArray} {imp m : Bool} {ky lf : Int} {V1 V : World} {Q0 : Nat → Nat} {e : Ending} (h : MI W0 b R DS TL x l p kt imp 4 lf V1) (hd : Dist W0.heap.size b R DS TL)
    (hq : ∀ i, i < 4 → q i < 4) (hqp : ∀ j, j < 4 → p j < 4 ∧ q (p j) = j) (hqi : ∀ i j, i < 4 → j < 4 → q i = q j → i = j) (hx : ∀ i, 0 ≤ x i ∧ x i ≤ 4)
    (hC : CompP R 4 (kMin (zk (x 0) (l (q 0))) (zk (x 1) (l (q 1))) (zk (x 2) (l (q 2))) (zk (x 3) (l (q 3)))) (fun i => { pick4 (zk (x 0) (l (q 0))) (zk (x 1) (l (q 1))) (zk (x 2) (l (q 2))) (zk (x 3) (l (q 3))) i with ws := wsF i (kMin (zk (x 0) (l (q 0))) (zk (x 1) (l (q 1))) (zk (x 2) (l (q 2))) (zk (x 3) (l (q 3)))) m }) q (Dn Q0 4) (Ln l 4) kt (l 3) 0 ky imp V1 e V) : e = .returned (.tuple #[]) ∧ DN W0 b R DS TL x l p q kt imp m ky lf V := by
  rw [kMin_zk _ _ _ _ _ _ _ _ (hx 0) (hx 1) (hx 2) (hx 3)] at hC
  obtain ⟨rfl, T, cc, Q, hT, hQ, hRu, hS, hTk, hO, -⟩ := hC
  have h1 := hd.bR
  have h2 := hd.RD
  have h3 := hd.DT
  have h4 := hd.Tn
  refine ⟨rfl, h.lft, fun j hj => hO.keep (h.tl j hj) (by show ¬ TL = R; omega), fun j hj hne => ?_, ⟨Q, T, cc, ?_, ?_, hS, fun i hi => ?_⟩, h.only.trans (hO.wide (fun _ e => .inr (.inl e)))⟩
  · have d := hRu.d j hj
    have l' := hRu.l j hj
    unfold finD clrD at d
    unfold finL clrL at l'
    rw [if_neg hne, sn_all q p hqp j hj, if_pos rfl] at d
    rw [if_neg hne, sn_all q p hqp j hj, if_pos rfl] at l'
    exact ⟨d, l'⟩
  · have d := hRu.d (q 3) (hq 3 (by omega))
    unfold finD at d
    rw [if_pos rfl] at d
    exact d
  · have l' := hRu.l (q 3) (hq 3 (by omega))
    unfold finL at l'
    rw [if_pos rfl, mnF_4 q _ hqi] at l'
    rw [l']
    congr 2
    have e : ∀ i, i < 4 → Ln l 4 (q i) = l (q i) := fun i hi => by unfold Ln; rw [if_pos (hq i hi)]
    rw [e 0 (by omega), e 1 (by omega), e 2 (by omega), e 3 (by omega)]
    exact mn4_perm q p l hq hqp
  · rw [← pick_zk (x 0) (x 1) (x 2) (x 3) (l (q 0)) (l (q 1)) (l (q 2)) (l (q 3)) i]
    exact hTk i hi
/-- one round's new declaration -/
def RM (B VB LB : Nat) (kt : ByteArray) (imp : Bool) (X li : Int) (s i : Nat) (k : Nat) (v : Value) (W : World) : Prop :=
  if k = 0 then v = .string kt
  else if k = 1 then v = .int .i64 s
  else if k = 2 then v = .pointer (some ⟨VB, s, none⟩)
  else if k = 3 then v = .int .u8 X
  else if k = 4 then v = .int .i64 i
  else if k = 5 then v = .pointer (some ⟨LB, i, none⟩)
  else if k = 6 then v = .int .i32 li
  else if k = 7 then v = tkV (zk X li)
  else if k = 8 then ∃ T, v = .slice (some ⟨T, 0, none⟩) 1 1 ∧ B ≤ T ∧ TAt W T 0 (zk X li)
  else if k = 9 then v = .int .i64 i
  else if k = 10 then v = .pointer (some ⟨LB, i, none⟩)
  else if k = 11 then v = .int .i32 li
  else if k = 12 then v = .agg #[.int .i32 li]
  else if k = 13 then v = .agg #[.int .i32 li, .int .i32 0]
  else if k = 14 then v = .bool imp
  else if k = 15 then ∃ T, v = .agg #[.string kt, .slice (some ⟨T, 0, none⟩) 1 1, .int .i32 li, .int .i32 0, .int .u16 0, .bool imp] ∧ B ≤ T ∧ TAt W T 0 (zk X li)
  else ∃ P T, v = .pointer (some ⟨P, 0, none⟩) ∧ B ≤ P ∧ B ≤ T ∧ Seg W P 0 (dcL kt (.slice (some ⟨T, 0, none⟩) 1 1) li 0 0 imp) ∧ TAt W T 0 (zk X li)
theorem RM.after {B VB LB : Nat} {kt : ByteArray} {imp : Bool} {X li : Int} {s i : Nat} (k : Nat) (v : Value) (W W' : World) (hb : Below W.heap.size W W') (h : RM B VB LB kt imp X li s i k v W) : RM B VB LB kt imp X li s i k v W' := by
  by_cases c8 : k = 8
  · subst c8; obtain ⟨T, a, b, c⟩ := h; exact ⟨T, a, b, c.after hb⟩
  by_cases c15 : k = 15
  · subst c15; obtain ⟨T, a, b, c⟩ := h; exact ⟨T, a, b, c.after hb⟩
  by_cases c16 : k ≤ 15
  · rcases (by omega : k = 0 ∨ k = 1 ∨ k = 2 ∨ k = 3 ∨ k = 4 ∨ k = 5 ∨ k = 6 ∨ k = 7 ∨ k = 9 ∨ k = 10 ∨ k = 11 ∨ k = 12 ∨ k = 13 ∨ k = 14) with rfl | rfl | rfl | rfl | rfl | rfl | rfl | rfl | rfl | rfl | rfl | rfl | rfl | rfl <;> exact h
  · unfold RM at *
    simp only [if_neg (show ¬ k = 0 by omega), if_neg (show ¬ k = 1 by omega), if_neg (show ¬ k = 2 by omega), if_neg (show ¬ k = 3 by omega), if_neg (show ¬ k = 4 by omega), if_neg (show ¬ k = 5 by omega), if_neg (show ¬ k = 6 by omega), if_neg (show ¬ k = 7 by omega), if_neg c8, if_neg (show ¬ k = 9 by omega), if_neg (show ¬ k = 10 by omega), if_neg (show ¬ k = 11 by omega), if_neg (show ¬ k = 12 by omega), if_neg (show ¬ k = 13 by omega), if_neg (show ¬ k = 14 by omega), if_neg c15] at h ⊢
    obtain ⟨P, T, a, b, c, d, e⟩ := h
    exact ⟨P, T, a, b, c, d.after hb, e.after hb⟩
theorem tokNew (w : World) (t : Tk) (ty : TypeId) : TAt (w.alloc (.cells #[t.ch, .string t.tx, .int .i32 t.lo, .int .u32 t.pl, .int .u16 t.uo, .int .u8 t.kd, .int .u8 t.ws] ty)) w.heap.size 0 t :=
  ⟨by simp [go_sem], by simp [go_sem], by simp [go_sem], by simp [go_sem], by simp [go_sem], by simp [go_sem], by simp [go_sem]⟩
set_option maxRecDepth 100000 in
theorem sl30h (W : World) (T i : Nat) (h : i < 4) : (Instr.sliceAt 30 (.slice (some ⟨T, 0, none⟩) 4 4) none (some (.int .i64 ((i : Int) + 1))) none).run Tryd.prog W = .ok (.slice (some ⟨T, 0, none⟩) (i + 1) 4) W := by
  rw [run_sliceAt_slice W 30 _ _ _ _ Tryd.underlying30, run_slice_h W 30 _ _ _ Tryd.underlying30 .i64 _ (by omega) (by omega)]
  have hs : (sizeOf (Tryd.prog.elem 30)).run Tryd.prog W = .ok 2 W := by kernel_rfl
  rw [hs]
  have e : ((i : Int) + 1).toNat = i + 1 := by omega
  simp [Result.andThen, sliced, Addr.add, e]
end Go.Proofs.YtgijoikmggjopaaDoor
