/- The law's own model of the table, walked. -/
import Derived.Test.YtoebloceibfboaaDoorCn2
import Derived.Maps.Own
import Derived.Maps.OwnSet
set_option linter.unusedVariables false
set_option linter.unusedSimpArgs false
namespace Go.Proofs.YtoebloceibfboaaDoor
open Go.RowKit
/-- the table behind k tokens, of which those with 'cv' are converted -/
def Lc (Z : Nat → ZT) (cv : Nat → Bool) : Nat → List SyR
  | 0 => []
  | k + 1 => if cv k = true then addS (Lc Z cv k) (Z k).tx else Lc Z cv k
def Fc (Z : Nat → ZT) (cv : Nat → Bool) (i : Nat) : Tk := if cv i = true then { zF Z i with kd := 39, pl := numS (Lc Z cv i) (Z i).tx } else zF Z i
theorem Lc_fit (Z : Nat → ZT) (cv : Nat → Bool) : ∀ k, FitS (Lc Z cv k) k
  | 0 => FitS.nil 0
  | k + 1 => by
    have h := Lc_fit Z cv k
    unfold Lc
    split
    · exact h.add _
    · exact ⟨by have := h.len; omega, fun r hr => by have := h.uses r hr; omega⟩
abbrev nmV (l : List SyR) : List Value := l.map fun r => Value.string r.name
abbrev usV (l : List SyR) : List Value := l.map fun r => Value.int .u32 r.uses
abbrev ownM (w : World) (b n : Nat) (D : DataW Unit) : Prop := w.ownsMap Tryd.prog 9 (plainElem Tryd.prog 22) b n D
theorem ownM_kept {w w' : World} {T : Nat → Prop} {b n : Nat} {D : DataW Unit} (h : ownM w b n D) (hk : Kp T w w') (hT : ¬ T b) : ownM w' b n D := by
  obtain ⟨es, clock, hb, rest⟩ := h
  refine ⟨es, clock, ?_, rest⟩
  rw [hk.block _ (Array.getElem?_eq_some_iff.1 hb).1 hT]
  exact hb
/-- the model's three: the names, the uses, the numbers -/
structure M3 (w wr : World) (b : Nat) (v1 v2 : Value) (D : DataW Unit) (l : List SyR) : Prop where
  bel : Below w.heap.size w wr
  o1 : wr.ownsRow w.heap.size 9 1 v1 l.length (nmV l)
  o2 : wr.ownsRow w.heap.size 22 1 v2 l.length (usV l)
  om : ownM wr b l.length D
  nm : Names D l
  hb : w.heap.size ≤ b
  lb : b < wr.heap.size
  d1 : v1.ownBlock ≠ some b
  d2 : v2.ownBlock ≠ some b
  d3 : ∀ k, v1.ownBlock = some k → v2.ownBlock ≠ some k
theorem M3.below {w wr w' : World} {b : Nat} {v1 v2 : Value} {D : DataW Unit} {l : List SyR} (h : M3 w wr b v1 v2 D l) (hb : Below wr.heap.size wr w') : M3 w w' b v1 v2 D l :=
  ⟨h.bel.trans (hb.mono h.bel.size), (Kp.of (S := fun _ => False) hb).own h.o1 (fun _ _ q => q), (Kp.of (S := fun _ => False) hb).own h.o2 (fun _ _ q => q), ownM_kept h.om (Kp.of (S := fun _ => False) hb) id, h.nm, h.hb, Nat.lt_of_lt_of_le h.lb hb.size, h.d1, h.d2, h.d3⟩
theorem M3.new {w W2 W3 W4 W5 : World} {b : Nat} {v1 v2 v1' : Value} {D : DataW Unit} {l : List SyR} {g c2 : Nat} (h : M3 w W2 b v1 v2 D l) (s : ByteArray) (hno : ∀ r ∈ l, r.name ≠ s)
    (om3 : ownM W3 b (l.length + 1) (D.put (slit s) (.lit (.int .u32 (l.length : Int))))) (k3 : Kp (fun x => some b = some x) W2 W3)
    (o14 : W4.ownsRow w.heap.size 9 1 v1' (l.length + 1) (nmV l ++ [.string s])) (k4 : Kp (fun x => v1.ownBlock = some x) W3 W4) (n4 : ∀ k, v1'.ownBlock = some k → v1.ownBlock = some k ∨ W3.heap.size ≤ k)
    (o25 : W5.ownsRow w.heap.size 22 1 (.slice (some ⟨g, 0, none⟩) (l.length + 1) c2) (l.length + 1) (usV l ++ [.int .u32 0])) (k5 : Kp (fun x => v2.ownBlock = some x) W4 W5) (n5 : v2.ownBlock = some g ∨ W4.heap.size ≤ g) :
    M3 w (W5.setCell ⟨g, l.length, none⟩ (.int .u32 1)) b v1' (.slice (some ⟨g, 0, none⟩) (l.length + 1) c2) (D.put (slit s) (.lit (.int .u32 (l.length : Int)))) (l ++ [⟨s, 1⟩]) := by
  have z3 := k3.size; have z4 := k4.size; have z5 := k5.size
  have lb := h.lb
  have l1 : ∀ k, v1.ownBlock = some k → w.heap.size ≤ k ∧ k < W2.heap.size := fun k e => h.o1.lt k e
  have l2 : ∀ k, v2.ownBlock = some k → w.heap.size ≤ k ∧ k < W2.heap.size := fun k e => h.o2.lt k e
  have l1' : ∀ k, v1'.ownBlock = some k → w.heap.size ≤ k ∧ k < W4.heap.size := fun k e => o14.lt k e
  have lg := (o25.lt g rfl).1
  have b1 : v1'.ownBlock ≠ some b := fun e => by rcases n4 b e with q | q; exact h.d1 q; omega
  have bg : g ≠ b := fun e => by subst e; rcases n5 with q | q; exact h.d2 q; omega
  have dg : ∀ k, v1'.ownBlock = some k → k ≠ g := fun k e eg => by
    subst eg
    rcases n5 with q | q
    · rcases n4 k e with q' | q'
      · exact h.d3 k q' q
      · have := l2 k q; omega
    · have := l1' k e; omega
  have k6 : Kp (fun x => x = g) W5 (W5.setCell ⟨g, l.length, none⟩ (.int .u32 1)) := (Kp.refl W5).set ⟨g, l.length, none⟩ _ (.inl rfl)
  have el : (l ++ [(⟨s, 1⟩ : SyR)]).length = l.length + 1 := by simp
  refine ⟨?_, ?_, ?_, ?_, h.nm.add s 1 hno, h.hb, ?_, b1, ?_, ?_⟩
  · have q3 := k3.below (B := w.heap.size) h.bel.size (fun x e => by injection e with e; subst e; exact h.hb)
    have q4 := k4.below (B := w.heap.size) (by have := h.bel.size; omega) (fun x e => (l1 x e).1)
    have q5 := k5.below (B := w.heap.size) (by have := h.bel.size; omega) (fun x e => (l2 x e).1)
    have q6 := k6.below (B := w.heap.size) (by have := h.bel.size; omega) (fun x e => by subst e; exact lg)
    exact (((h.bel.trans q3).trans q4).trans q5).trans q6
  · rw [el]
    have := k6.own (k5.own o14 (fun k e q => by
      rcases n4 k e with q' | q'
      · exact h.d3 k q' q
      · have := l2 k q; omega)) (fun k e q => dg k e q)
    simpa using this
  · rw [el]
    have := (o25.stored l.length (.int .u32 1)).1
    simpa using this
  · rw [el]
    exact ownM_kept (ownM_kept (ownM_kept om3 k4 (fun q => h.d1 q)) k5 (fun q => h.d2 q)) k6 (fun q => bg q.symm)
  · have := k6.size; omega
  · intro e; injection e with e; exact bg e
  · intro k e q
    injection q with q
    exact dg k e q.symm
theorem M3.old {w W : World} {b g c2 : Nat} {v1 : Value} {D : DataW Unit} {l : List SyR} (h : M3 w W b v1 (.slice (some ⟨g, 0, none⟩) l.length c2) D l) (i : Nat) (s : ByteArray) (u : Int) (hi : l[i]? = some ⟨s, u⟩) :
    M3 w (W.setCell ⟨g, i, none⟩ (.int .u32 (u + 1))) b v1 (.slice (some ⟨g, 0, none⟩) l.length c2) D (l.set i ⟨s, u + 1⟩) := by
  have k6 : Kp (fun x => x = g) W (W.setCell ⟨g, i, none⟩ (.int .u32 (u + 1))) := (Kp.refl W).set ⟨g, i, none⟩ _ (.inl rfl)
  have lg := (h.o2.lt g rfl).1
  have el : (l.set i ⟨s, u + 1⟩).length = l.length := by simp
  have hil := (List.getElem?_eq_some_iff.1 hi)
  obtain ⟨hil, hie⟩ := hil
  refine ⟨h.bel.trans (k6.below h.bel.size (fun x e => by subst e; exact lg)), ?_, ?_, ?_, h.nm.set i ⟨s, u⟩ (u + 1) hi, h.hb, ?_, h.d1, h.d2, h.d3⟩
  · rw [el]
    have e : nmV (l.set i ⟨s, u + 1⟩) = nmV l := by
      unfold nmV
      rw [List.map_set]
      apply List.ext_getElem?
      intro j
      rw [List.getElem?_set]
      by_cases e : i = j
      · subst e
        rw [if_pos rfl, if_pos (by simpa using hil), List.getElem?_map, hi]
        rfl
      · rw [if_neg e]
    rw [e]
    exact k6.own h.o1 (fun k e q => h.d3 k e (by rw [q]; rfl))
  · rw [el]
    have e : usV (l.set i ⟨s, u + 1⟩) = (usV l).set i (.int .u32 (u + 1)) := by unfold usV; rw [List.map_set]
    rw [e]
    exact (h.o2.stored i (.int .u32 (u + 1))).1
  · rw [el]
    exact ownM_kept h.om k6 (fun q => h.d2 (by rw [q]; rfl))
  · have := k6.size; have := h.lb; omega
/-- the flags, read -/
def RowB (w : World) (A : Option Addr) (n : Nat) (f : Nat → Bool) : Prop := ∀ i, i < n → ∃ x, A = some x ∧ w.cell? (x.add i) = some (.bool (f i))
theorem RowB.after {w w' : World} {A : Option Addr} {n : Nat} {f : Nat → Bool} (h : RowB w A n f) (hb : Below w.heap.size w w') : RowB w' A n f := fun i hi => by
  obtain ⟨x, e, hc⟩ := h i hi
  exact ⟨x, e, ac hb hc⟩
theorem info9 : (Tryd.prog.info? 9).map (fun i => (i.zero.map (·.cells), i.size, i.bytes)) = some (some #[.string ⟨#[]⟩], 1, 16) := by kernel_rfl
theorem info22 : (Tryd.prog.info? 22).map (fun i => (i.zero.map (·.cells), i.size, i.bytes)) = some (some #[.int .u32 0], 1, 4) := by kernel_rfl
theorem one9 (s : ByteArray) : (#[Value.string s] : Array Value).all (·.oneCell') = true := by rw [Array.all_eq_true']; intro u hu; simp at hu; subst hu; rfl
theorem one22 (x : Int) : (#[Value.int .u32 x] : Array Value).all (·.oneCell') = true := by rw [Array.all_eq_true']; intro u hu; simp at hu; subst hu; rfl
theorem rowN_of {w : World} {B c : Nat} {a : Option Addr} {l : List SyR} (h : w.ownsRow B 9 1 (.slice a l.length c) l.length (nmV l)) : RowN w a l := fun i r hi => by
  have hil := (List.getElem?_eq_some_iff.1 hi).1
  obtain ⟨g, c', e, -, -, -, -⟩ := own_some h (by omega)
  injection e with e1 e2 e3
  subst e1 e3
  refine ⟨_, rfl, ?_⟩
  rw [own_add, h.cellAt i (by omega)]
  simp [hi]
theorem rowU_of {w : World} {B c : Nat} {a : Option Addr} {l : List SyR} (h : w.ownsRow B 22 1 (.slice a l.length c) l.length (usV l)) : RowU w a l := fun i r hi => by
  have hil := (List.getElem?_eq_some_iff.1 hi).1
  obtain ⟨g, c', e, -, -, -, -⟩ := own_some h (by omega)
  injection e with e1 e2 e3
  subst e1 e3
  refine ⟨_, rfl, ?_⟩
  rw [own_add, h.cellAt i (by omega)]
  simp [hi]
set_option maxRecDepth 100000 in
set_option maxHeartbeats 4000000 in
theorem model17_c (w : World) (A : Option Addr) (n cA : Nat) (Z : Nat → ZT) (T cT : Nat) (C : Option Addr) (cC : Nat) (cv : Nat → Bool) (S : Nat → Prop) (G B : Nat) (mk : Bool)
    (hz : ZL w A n Z) (ht : ∀ i, i < n → TAt w T (i * 7) (Fc Z cv i)) (hc : RowB w C n cv) (hp : PS w S G B mk (Lc Z cv n)) (hn : n ≤ 43690) (hs : ∀ i, i < n → (Z i).tx.size ≤ 1048576) :
    Calls Tryd.prog 17 #[.slice A n cA, .slice (some ⟨T, 0, none⟩) n cT, .slice C n cC, .pointer (some ⟨B, 0, none⟩), .bool mk] w (Gv (.bool true) w) := by
  have HZ := Lib.hid hz; have HT := Lib.hid ht; have HC := Lib.hid hc; have HP := Lib.hid hp; have HS := Lib.hid hs
  clear hz ht hc hp hs
  have hmm := @run_makeMap Tryd.prog
  go_enter Tryd.func17, Tryd.ntmps17
  go_upto_region 4 with fail
  refine wp_gen (fun W0 hW => ?_)
  have st : Hid (M3 w W0 w.heap.size (.slice none 0 0) (.slice none 0 0) (.map []) []) := Lib.hid (by
    rw [hW]
    exact ⟨ba _ _, World.ownsRow_nil _ _ _ _, World.ownsRow_nil _ _ _ _, World.ownsMap_made _ _ _ _, Names.nil, Nat.le_refl _, by simp, (fun h => by cases h), (fun h => by cases h), fun k h => by cases h⟩)
  clear hW hmm
  go_wp2
  go_loopw [12, 13, 14] (fun u1 u2 i wr => ∃ (k : Nat) (v1 v2 : Value) (D : DataW Unit), u1 = v1 ∧ u2 = v2 ∧ i = .int .i64 k ∧ k ≤ n ∧ M3 w wr w.heap.size v1 v2 D (Lc Z cv k)) (fun _ _ i _ => n - (intOf i).toNat)
  case atStart => exact ⟨0, _, _, _, rfl, rfl, rfl, by omega, st.out⟩
  case round =>
    clear st
    obtain ⟨k, v1, v2, D, rfl, rfl, rfl, hk, hM⟩ := hrel
    obtain ⟨a1, c1, rfl, -, -⟩ := own_shape hM.o1
    obtain ⟨a2, c2, rfl, -, -⟩ := own_shape hM.o2
    have hB := Lib.hid hM.bel
    have hfit := Lc_fit Z cv k
    have hlen := hfit.len
    replace hfit := Lib.hid hfit
    have lo1 : Hid (∀ x, (Value.slice a1 (Lc Z cv k).length c1).ownBlock = some x → x < wr.heap.size) := Lib.hid (fun x e => (hM.o1.lt x e).2)
    have lo2 : Hid (∀ x, (Value.slice a2 (Lc Z cv k).length c2).ownBlock = some x → x < wr.heap.size) := Lib.hid (fun x e => (hM.o2.lt x e).2)
    have lob := hM.lb
    replace hM := Lib.hid hM
    by_cases hlt : k < n
    · obtain ⟨xz, rfl, z0, z1⟩ := (HZ.out.after hB.out).at_ k hlt
      obtain ⟨xc, rfl, q0⟩ := (HC.out.after hB.out) k hlt
      have tk := HT.out k hlt
      have c0 := ac hB.out tk.c0; have c1' := ac hB.out tk.c1; have c2' := ac hB.out tk.c2; have c3 := ac hB.out tk.c3; have c4 := ac hB.out tk.c4; have c5 := ac hB.out tk.c5; have c6 := ac hB.out tk.c6
      clear tk
      have i0 : (0 : Int) ≤ k := by omega
      have i1 : (k : Int) < n := by omega
      have etx : (Fc Z cv k).tx = (Z k).tx := by unfold Fc; split <;> rfl
      have ech : (Fc Z cv k).ch = .pointer none := by unfold Fc; split <;> rfl
      rw [etx] at c1'; rw [ech] at c0
      clear etx ech
      go_upto_region 8 with fail
      refine wp_gen (fun W1 hW => ?_)
      have hb1 : Below wr.heap.size wr W1 := by rw [hW]; exact ba _ _
      have hz1 : W1.heap.size = wr.heap.size + 1 := by rw [hW]; simp
      have g1 : W1.cell? ⟨wr.heap.size, 1, none⟩ = some (.string (Z k).tx) := by rw [hW]; simp [go_sem]
      have g3 : W1.cell? ⟨wr.heap.size, 3, none⟩ = some (.int .u32 (Fc Z cv k).pl) := by rw [hW]; simp [go_sem]
      have g5 : W1.cell? ⟨wr.heap.size, 5, none⟩ = some (.int .u8 (Fc Z cv k).kd) := by rw [hW]; simp [go_sem]
      clear hW c0 c1' c2' c3 c4 c5 c6
      replace z0 := ac hb1 z0; replace z1 := ac hb1 z1; replace q0 := ac hb1 q0
      replace hM := Lib.hid (hM.out.below hb1)
      have hsz1 := hb1.size
      clear hb1
      have y1 := fun d os => cell_regrown g1 d os
      have y2 := fun d os => cell_regrown z1 d os
      refine drawn_tail 7 (by kernel_rfl) (by kernel_rfl) (by kernel_rfl) (fun Q hQ => ?_)
      simp only [List.take_succ_cons, List.take_zero, List.drop_succ_cons, List.drop_zero]
      repeat (quiet_step (fail))
      refine wpQuiet_nil ?_
      intro W2 hw
      have hb1 : Below W1.heap.size W1 W2 := by
        obtain ⟨⟨d, os⟩, rfl⟩ := hw
        exact below_regrown _ d os
      clear hw y1 y2
      replace z0 := ac hb1 z0; replace z1 := ac hb1 z1; replace q0 := ac hb1 q0; replace g3 := ac hb1 g3; replace g5 := ac hb1 g5
      replace hM := Lib.hid (hM.out.below hb1)
      have hsz2 := hb1.size
      clear hb1 g1
      cases hcv : cv k with
      | false =>
        rw [hcv] at q0
        have e : Fc Z cv k = zF Z k := by unfold Fc; rw [if_neg (by simp [hcv])]
        rw [e] at g3 g5
        simp only [zF] at g3 g5
        clear e
        go_upto_region 11 with fail
        have y5 := fun d os => cell_regrown g5 d os
        have y3 := fun d os => cell_regrown g3 d os
        have y0 := fun d os => cell_regrown z0 d os
        refine drawn_tail 12 (by kernel_rfl) (by kernel_rfl) (by kernel_rfl) (fun Q hQ => ?_)
        simp only [List.take_succ_cons, List.take_zero, List.drop_succ_cons, List.drop_zero]
        repeat (quiet_step (fail))
        refine wpQuiet_nil ?_
        intro W3 hw
        have hb1 : Below W2.heap.size W2 W3 := by
          obtain ⟨⟨d, os⟩, rfl⟩ := hw
          exact below_regrown _ d os
        clear hw y5 y3 y0
        have hM3 := Lib.hid (hM.out.below hb1)
        have eL : Lc Z cv (k + 1) = Lc Z cv k := by rw [Lc, if_neg (by simp [hcv])]
        replace eL := Lib.hid eL
        clear hb1
        go_wp2
        go_roundw
        case rel => exact ⟨k + 1, _, _, D, rfl, rfl, by go_num, by omega, by rw [eL.out]; exact hM3.out⟩
        case measure => simp [intOf]; omega
      | true =>
        rw [hcv] at q0
        have eF : Fc Z cv k = { zF Z k with kd := 39, pl := numS (Lc Z cv k) (Z k).tx } := by unfold Fc; rw [if_pos hcv]
        rw [eF] at g3 g5
        simp only at g3 g5
        clear eF
        have eL : Lc Z cv (k + 1) = addS (Lc Z cv k) (Z k).tx := by rw [Lc, if_pos hcv]
        have hsz := HS.out k hlt
        have hmx : (Z k).tx.size ≤ maxLen := by unfold maxLen; omega
        obtain ⟨v, ps, hrun, hv⟩ := hM.out.om.look_ok lawS Tryd.underlying99 (z := .int .u32 0) (by kernel_rfl) (plainElem_int Tryd.underlying22 (by decide)) (slit_key hmx)
        have wlen := u32_small (Lc Z cv k).length (by omega)
        cases e : idxS (Lc Z cv k) (Z k).tx with
        | none =>
          have hno := idxS_none e
          have hhas := hM.out.nm.off _ hno
          rw [Maps.atKey_of_not_has hhas] at hv
          obtain ⟨c, rfl, hc, -⟩ := plainElem_int_inv Tryd.underlying22 hv
          have hc0 : c = 0 := by
            have := congrArg Prod.fst hc
            injection this with this
            injection this with _ this
            exact this.symm
          subst hc0
          rw [hhas] at hrun
          have en : numS (Lc Z cv k) (Z k).tx = (Lc Z cv k).length := by unfold numS; rw [e]; rfl
          have ea : addS (Lc Z cv k) (Z k).tx = Lc Z cv k ++ [⟨(Z k).tx, 1⟩] := by unfold addS; rw [e]
          rw [en] at g3
          rw [ea] at eL
          clear hv hc hhas en ea e
          replace eL := Lib.hid eL; replace hno := Lib.hid hno
          have wf : (Lit.int .u32 ((Lc Z cv k).length : Int)).wf = true := by
            have e1 : IntKind.u32.min = 0 := by decide
            have e2 : IntKind.u32.max = 4294967295 := by decide
            simp [Lit.wf]; omega
          go_upto_region 17 with (at_mapUpdate; go_loud (refine wpList_mapUpdate_own _ rfl _ _ _ 99 rfl 9 22 lawS Tryd.underlying99 _ w.heap.size (Lc Z cv k).length D rfl hM.out.om (by unfold maxLen; omega) _ _ _ rfl rfl (slit_key hmx) _ [] (plainElem_int Tryd.underlying22 wf) ?_); intro W3 om3 hg3; replace om3 := Lib.hid om3; have k3 := Lib.hid (Kp.grown hg3); clear hg3)
          have hz3 := k3.out.size
          have hB3 : Hid (Below w.heap.size w W3) := Lib.hid (hM.out.bel.trans (k3.out.below hM.out.bel.size (fun x q => by injection q with q; subst q; exact Nat.le_refl _)))
          have g3' := k3.out.cell g3 (fun q => by injection q with q; simp at q; omega)
          have g5' := k3.out.cell g5 (fun q => by injection q with q; simp at q; omega)
          obtain ⟨x', hx', z0', z1'⟩ := (HZ.out.after hB3.out).at_ k hlt
          cases hx'
          have o13 : Hid (W3.ownsRow w.heap.size 9 1 (.slice a1 (Lc Z cv k).length c1) (Lc Z cv k).length (nmV (Lc Z cv k))) := Lib.hid (k3.out.own hM.out.o1 (fun x q q' => by injection q' with q'; subst q'; exact hM.out.d1 q))
          have o23 : Hid (W3.ownsRow w.heap.size 22 1 (.slice a2 (Lc Z cv k).length c2) (Lc Z cv k).length (usV (Lc Z cv k))) := Lib.hid (k3.out.own hM.out.o2 (fun x q q' => by injection q' with q'; subst q'; exact hM.out.d2 q))
          have hw3 := hB3.out.size
          clear z0 z1 q0 hrun g3 g5
          simp only [Act.put]
          go_upto_region 18 with (at_builtin; go_loud (refine app1n (w := W3) (.tmp 77) (.tmp 83) 38 9 w.heap.size 1 16 #[.string ⟨#[]⟩] #[.string (Z k).tx] (.slice a1 (Lc Z cv k).length c1) (Lc Z cv k).length _ rfl rfl rfl rfl rfl Tryd.underlying38 info9 rfl (by omega) o13.out rfl (one9 _) (by omega) (by omega) hw3 ?_); intro v3 W4 o4 k4 n4; replace o4 := Lib.hid o4; replace k4 := Lib.hid k4; replace n4 := Lib.hid n4)
          have hz4 := k4.out.size
          have o24 : Hid (W4.ownsRow w.heap.size 22 1 (.slice a2 (Lc Z cv k).length c2) (Lc Z cv k).length (usV (Lc Z cv k))) := Lib.hid (k4.out.own o23.out (fun x q q' => hM.out.d3 x q' q))
          have g3b := k4.out.cell g3' (fun q => by have := lo1.out _ q; simp at this)
          have g5b := k4.out.cell g5' (fun q => by have := lo1.out _ q; simp at this)
          clear g3' g5' z0' z1' o13 o23
          have hw4 : w.heap.size ≤ W4.heap.size := by omega
          go_upto_region 19 with (at_builtin; go_loud (refine app1n (w := W4) (.tmp 85) (.tmp 86) 39 22 w.heap.size 1 4 #[.int .u32 0] #[.int .u32 0] (.slice a2 (Lc Z cv k).length c2) (Lc Z cv k).length _ rfl rfl rfl rfl rfl Tryd.underlying39 info22 rfl (by omega) o24.out rfl (one22 _) (by omega) (by omega) hw4 ?_); intro v4 W5 o5 k5 n5; obtain ⟨g, c4, rfl, -, -, -, -⟩ := own_some o5 (by omega); replace n5 := Lib.hid (n5 g rfl); replace o5 := Lib.hid o5; replace k5 := Lib.hid k5)
          have g3c := k5.out.cell g3b (fun q => by have := lo2.out _ q; simp at this)
          have g5c := k5.out.cell g5b (fun q => by have := lo2.out _ q; simp at this)
          have hz5 := k5.out.size
          have hcell := o5.out.cellAt (Lc Z cv k).length (by omega)
          have hx : (usV (Lc Z cv k) ++ [Value.int .u32 0])[(Lc Z cv k).length]? = some (.int .u32 0) := by
            rw [List.getElem?_append_right (by simp)]; simp
          have hcell' : W5.cell? ⟨g, (Lc Z cv k).length, none⟩ = some (.int .u32 0) := hcell.trans hx
          have hfz := o5.out.frozenAt (Lc Z cv k).length
          have j0 : (0 : Int) ≤ ((Lc Z cv k).length : Int) := by omega
          have j1 : ((Lc Z cv k).length : Int) < ((Lc Z cv k).length : Int) + 1 := by omega
          clear g3b g5b o24 hcell hx
          go_upto_region 20 with fail
          refine wp_gen (fun W6 hW => ?_)
          have hM6 : Hid (M3 w W6 w.heap.size v3 (.slice (some ⟨g, 0, none⟩) ((Lc Z cv k).length + 1) c4) (D.put (slit (Z k).tx) (.lit (.int .u32 ((Lc Z cv k).length : Int)))) (Lc Z cv k ++ [⟨(Z k).tx, 1⟩])) := Lib.hid (by rw [hW]; exact M3.new hM.out (Z k).tx hno.out om3.out k3.out o4.out k4.out n4.out o5.out k5.out n5.out)
          have gne : ¬ wr.heap.size = g := fun q => by
            rcases n5.out with q' | q'
            · have := lo2.out _ q'; omega
            · omega
          have g3d : W6.cell? ⟨wr.heap.size, 3, none⟩ = some (.int .u32 ((Lc Z cv k).length : Int)) := by rw [hW, co (by intro q; injection q with q; exact gne q.symm)]; exact g3c
          have g5d : W6.cell? ⟨wr.heap.size, 5, none⟩ = some (.int .u8 39) := by rw [hW, co (by intro q; injection q with q; exact gne q.symm)]; exact g5c
          clear hW g3c g5c hcell' hfz o5 k5 n5 o4 k4 n4 om3 k3 hM hB3
          go_wp2
          go_roundw
          case rel => exact ⟨k + 1, _, _, _, rfl, rfl, by go_num, by omega, by rw [eL.out]; exact hM6.out⟩
          case measure => simp [intOf]; omega
        | some i =>
          obtain ⟨u, hu⟩ := idxS_some e
          obtain ⟨hhas, hat⟩ := hM.out.nm.on i _ hu
          rw [hat] at hv
          obtain ⟨c, rfl, hc, -⟩ := plainElem_int_inv Tryd.underlying22 hv
          have hc0 : c = (i : Int) := by
            have := congrArg Prod.fst hc
            injection this with this
            injection this with _ this
            exact this.symm
          subst hc0
          rw [hhas] at hrun
          have hub := hfit.out.uses _ (List.mem_of_getElem? hu)
          simp only at hub
          have en : numS (Lc Z cv k) (Z k).tx = i := by unfold numS; rw [e]; rfl
          have ea : addS (Lc Z cv k) (Z k).tx = (Lc Z cv k).set i ⟨(Z k).tx, u + 1⟩ := by unfold addS; rw [e]; simp only [hu, Option.map_some, Option.getD_some]
          rw [en] at g3
          rw [ea] at eL
          clear hv hc hhas hat en ea e
          replace eL := Lib.hid eL
          have hil := (List.getElem?_eq_some_iff.1 hu).1
          obtain ⟨g, c4, e2, -, -, -, -⟩ := own_some hM.out.o2 (by omega)
          injection e2 with e2 _ e3
          subst e2
          subst e3
          have hcell := hM.out.o2.cellAt i (by omega)
          have hx : (usV (Lc Z cv k))[i]? = some (.int .u32 u) := by rw [List.getElem?_map, hu]; rfl
          have hcell' : W2.cell? ⟨g, i, none⟩ = some (.int .u32 u) := hcell.trans hx
          have hfz := hM.out.o2.frozenAt i
          have wl : IntKind.u32.wrap (u + 1) = u + 1 := by
            simp [IntKind.wrap, IntKind.bits, IntKind.signed]
            omega
          have j0 : (0 : Int) ≤ (i : Int) := by omega
          have j1 : (i : Int) < ((Lc Z cv k).length : Int) := by omega
          have hM6' := M3.old hM.out i (Z k).tx u hu
          have gne : ¬ wr.heap.size = g := fun q => by have := lo2.out g rfl; omega
          replace hu := Lib.hid hu
          replace hM6' := Lib.hid hM6'
          clear hcell hx
          go_upto_region 20 with fail
          refine wp_gen (fun W6 hW => ?_)
          have hM6 : Hid (M3 w W6 w.heap.size (.slice a1 (Lc Z cv k).length c1) (.slice (some ⟨g, 0, none⟩) (Lc Z cv k).length c2) D ((Lc Z cv k).set i ⟨(Z k).tx, u + 1⟩)) := Lib.hid (by rw [hW]; exact hM6'.out)
          have g3d : W6.cell? ⟨wr.heap.size, 3, none⟩ = some (.int .u32 (i : Int)) := by rw [hW, co (by intro q; injection q with q; exact gne q.symm)]; exact g3
          have g5d : W6.cell? ⟨wr.heap.size, 5, none⟩ = some (.int .u8 39) := by rw [hW, co (by intro q; injection q with q; exact gne q.symm)]; exact g5
          clear hW g3 g5 hcell' hfz hM6' hM hrun
          go_wp2
          go_roundw
          case rel => exact ⟨k + 1, _, _, _, rfl, rfl, by go_num, by omega, by rw [eL.out]; exact hM6.out⟩
          case measure => simp [intOf]; omega
    · obtain rfl : k = n := by omega
      have C11 := Lib.hid (table11_c wr S G B mk (Lc Z cv k) (HP.out.below hB.out) (by omega) a1 a2 c1 c2 (rowN_of hM.out.o1) (rowU_of hM.out.o2))
      go_wp2_with (go_at_call 11; (with_reducible refine C11.out.mono ?_); rintro e w6 ⟨rfl, hb6⟩; replace hB := Lib.hid (hB.out.trans (hb6.mono hB.out.size)))
      go_ret
      exact ⟨rfl, hB.out⟩
end Go.Proofs.YtoebloceibfboaaDoor
