/- FnHandleSingleAnimationNameScript: the law's own check of the table, walked; the law's walk. -/
import Derived.Test.YtlmnnejfcieddaaDoorAm3
set_option linter.unusedVariables false
set_option linter.unusedSimpArgs false
namespace Go.Proofs.YtlmnnejfcieddaaDoor
open Go.RowKit
abbrev nmV (l : List SyR) : List Value := l.map fun r => Value.string r.name
abbrev usV (l : List SyR) : List Value := l.map fun r => Value.int .u32 r.uses
/-- the check's own two rows: the names, the uses -/
structure M2 (w wr : World) (v1 v2 : Value) (l : List SyR) : Prop where
  bel : Below w.heap.size w wr
  o1 : wr.ownsRow w.heap.size 9 1 v1 l.length (nmV l)
  o2 : wr.ownsRow w.heap.size 36 1 v2 l.length (usV l)
  d3 : ∀ k, v1.ownBlock = some k → v2.ownBlock ≠ some k
theorem M2.below {w wr w' : World} {v1 v2 : Value} {l : List SyR} (h : M2 w wr v1 v2 l) (hb : Below wr.heap.size wr w') : M2 w w' v1 v2 l :=
  ⟨h.bel.trans (hb.mono h.bel.size), (Kp.of (S := fun _ => False) hb).own h.o1 (fun _ _ q => q), (Kp.of (S := fun _ => False) hb).own h.o2 (fun _ _ q => q), h.d3⟩
theorem M2.new {w W3 W4 W5 : World} {v1 v2 v1' : Value} {l : List SyR} {g c2 : Nat} (h : M2 w W3 v1 v2 l) (s : ByteArray)
    (o14 : W4.ownsRow w.heap.size 9 1 v1' (l.length + 1) (nmV l ++ [.string s])) (k4 : Kp (fun x => v1.ownBlock = some x) W3 W4) (n4 : ∀ k, v1'.ownBlock = some k → v1.ownBlock = some k ∨ W3.heap.size ≤ k)
    (o25 : W5.ownsRow w.heap.size 36 1 (.slice (some ⟨g, 0, none⟩) (l.length + 1) c2) (l.length + 1) (usV l ++ [.int .u32 0])) (k5 : Kp (fun x => v2.ownBlock = some x) W4 W5) (n5 : v2.ownBlock = some g ∨ W4.heap.size ≤ g) :
    M2 w (W5.setCell ⟨g, l.length, none⟩ (.int .u32 1)) v1' (.slice (some ⟨g, 0, none⟩) (l.length + 1) c2) (l ++ [⟨s, 1⟩]) := by
  have z4 := k4.size; have z5 := k5.size
  have l1 : ∀ k, v1.ownBlock = some k → w.heap.size ≤ k ∧ k < W3.heap.size := fun k e => h.o1.lt k e
  have l2 : ∀ k, v2.ownBlock = some k → w.heap.size ≤ k ∧ k < W3.heap.size := fun k e => h.o2.lt k e
  have l1' : ∀ k, v1'.ownBlock = some k → w.heap.size ≤ k ∧ k < W4.heap.size := fun k e => o14.lt k e
  have lg := (o25.lt g rfl).1
  have dg : ∀ k, v1'.ownBlock = some k → k ≠ g := fun k e eg => by
    subst eg
    rcases n5 with q | q
    · rcases n4 k e with q' | q'
      · exact h.d3 k q' q
      · have := l2 k q; omega
    · have := l1' k e; omega
  have k6 : Kp (fun x => x = g) W5 (W5.setCell ⟨g, l.length, none⟩ (.int .u32 1)) := (Kp.refl W5).set ⟨g, l.length, none⟩ _ (.inl rfl)
  have el : (l ++ [(⟨s, 1⟩ : SyR)]).length = l.length + 1 := by simp
  refine ⟨?_, ?_, ?_, ?_⟩
  · have q4 := k4.below (B := w.heap.size) h.bel.size (fun x e => (l1 x e).1)
    have q5 := k5.below (B := w.heap.size) (by have := h.bel.size; omega) (fun x e => (l2 x e).1)
    have q6 := k6.below (B := w.heap.size) (by have := h.bel.size; omega) (fun x e => by subst e; exact lg)
    exact ((h.bel.trans q4).trans q5).trans q6
  · rw [el]
    have := k6.own (k5.own o14 (fun k e q => by
      rcases n4 k e with q' | q'
      · exact h.d3 k q' q
      · have := l2 k q; omega)) (fun k e q => dg k e q)
    simpa using this
  · rw [el]
    have := (o25.stored l.length (.int .u32 1)).1
    simpa using this
  · intro k e q
    injection q with q
    exact dg k e q.symm
theorem M2.old {w W : World} {g c2 : Nat} {v1 : Value} {l : List SyR} (h : M2 w W v1 (.slice (some ⟨g, 0, none⟩) l.length c2) l) (i : Nat) (s : ByteArray) (u : Int) (hi : l[i]? = some ⟨s, u⟩) :
    M2 w (W.setCell ⟨g, i, none⟩ (.int .u32 (u + 1))) v1 (.slice (some ⟨g, 0, none⟩) l.length c2) (l.set i ⟨s, u + 1⟩) := by
  have k6 : Kp (fun x => x = g) W (W.setCell ⟨g, i, none⟩ (.int .u32 (u + 1))) := (Kp.refl W).set ⟨g, i, none⟩ _ (.inl rfl)
  have lg := (h.o2.lt g rfl).1
  have el : (l.set i ⟨s, u + 1⟩).length = l.length := by simp
  have hil := (List.getElem?_eq_some_iff.1 hi)
  obtain ⟨hil, hie⟩ := hil
  refine ⟨h.bel.trans (k6.below h.bel.size (fun x e => by subst e; exact lg)), ?_, ?_, h.d3⟩
  · rw [el]
    have e : nmV (l.set i ⟨s, u + 1⟩) = nmV l := by
      unfold nmV
      rw [List.map_set]
      apply List.ext_getElem?
      intro j
      rw [List.getElem?_set]
      by_cases e : i = j
      · subst e
        rw [if_pos rfl, if_pos (by simpa using hil), List.getElem?_map, hi]
        rfl
      · rw [if_neg e]
    rw [e]
    exact k6.own h.o1 (fun k e q => h.d3 k e (by rw [q]; rfl))
  · rw [el]
    have e : usV (l.set i ⟨s, u + 1⟩) = (usV l).set i (.int .u32 (u + 1)) := by unfold usV; rw [List.map_set]
    rw [e]
    exact (h.o2.stored i (.int .u32 (u + 1))).1
/-- the flags, read -/
def RowB (w : World) (A : Option Addr) (n : Nat) (f : Nat → Bool) : Prop := ∀ i, i < n → ∃ x, A = some x ∧ w.cell? (x.add i) = some (.bool (f i))
theorem RowB.after {w w' : World} {A : Option Addr} {n : Nat} {f : Nat → Bool} (h : RowB w A n f) (hb : Below w.heap.size w w') : RowB w' A n f := fun i hi => by
  obtain ⟨x, e, hc⟩ := h i hi
  exact ⟨x, e, ac hb hc⟩
theorem info9 : (Tryd.prog.info? 9).map (fun i => (i.zero.map (·.cells), i.size, i.bytes)) = some (some #[.string ⟨#[]⟩], 1, 16) := by kernel_rfl
theorem info36 : (Tryd.prog.info? 36).map (fun i => (i.zero.map (·.cells), i.size, i.bytes)) = some (some #[.int .u32 0], 1, 4) := by kernel_rfl
theorem one9 (s : ByteArray) : (#[Value.string s] : Array Value).all (·.oneCell') = true := by rw [Array.all_eq_true']; intro u hu; simp at hu; subst hu; rfl
theorem one36 (x : Int) : (#[Value.int .u32 x] : Array Value).all (·.oneCell') = true := by rw [Array.all_eq_true']; intro u hu; simp at hu; subst hu; rfl
theorem rowN_of {w : World} {B c : Nat} {a : Option Addr} {l : List SyR} (h : w.ownsRow B 9 1 (.slice a l.length c) l.length (nmV l)) : RowN w a l := fun i r hi => by
  have hil := (List.getElem?_eq_some_iff.1 hi).1
  obtain ⟨g, c', e, -, -, -, -⟩ := own_some h (by omega)
  injection e with e1 e2 e3
  subst e1 e3
  refine ⟨_, rfl, ?_⟩
  rw [own_add, h.cellAt i (by omega)]
  simp [hi]
theorem rowU_of {w : World} {B c : Nat} {a : Option Addr} {l : List SyR} (h : w.ownsRow B 36 1 (.slice a l.length c) l.length (usV l)) : RowU w a l := fun i r hi => by
  have hil := (List.getElem?_eq_some_iff.1 hi).1
  obtain ⟨g, c', e, -, -, -, -⟩ := own_some h (by omega)
  injection e with e1 e2 e3
  subst e1 e3
  refine ⟨_, rfl, ?_⟩
  rw [own_add, h.cellAt i (by omega)]
  simp [hi]
theorem tl_ne {a b : ByteArray} (h : a ≠ b) : (a.toList == b.toList) = false := by
  cases e : (a.toList == b.toList) with
  | false => rfl
  | true =>
    have e := of_decide_eq_true (by simpa using e : decide (a.toList = b.toList) = true)
    rw [ByteArray.toList_eq, ByteArray.toList_eq] at e
    exact absurd (slit_inj (by rw [slit, slit, e])) h
theorem idxS_at {l : List SyR} {nm : ByteArray} {j : Nat} {r : SyR} (hj : l[j]? = some r) (hr : r.name = nm) (hb : ∀ i r, i < j → l[i]? = some r → r.name ≠ nm) : idxS l nm = some j := by
  unfold idxS
  rw [List.findIdx?_eq_some_iff_getElem]
  obtain ⟨h1, h2⟩ := List.getElem?_eq_some_iff.1 hj
  refine ⟨h1, by rw [h2]; simp [hr], fun i hi => ?_⟩
  have := hb i l[i] hi (List.getElem?_eq_getElem (by omega))
  simpa using this
theorem idxS_no {l : List SyR} {nm : ByteArray} (hb : ∀ i r, i < l.length → l[i]? = some r → r.name ≠ nm) : idxS l nm = none := by
  unfold idxS
  rw [List.findIdx?_eq_none_iff]
  intro r hr
  obtain ⟨i, hi⟩ := List.getElem?_of_mem hr
  have := hb i r (List.getElem?_eq_some_iff.1 hi).1 hi
  simpa using this
set_option maxRecDepth 100000 in
set_option maxHeartbeats 4000000 in
theorem check12_c (w : World) (A0 A1 C : Option Addr) (n0 c0 n1 c1 cC n T cT : Nat) (K : Nat → Int) (X : Nat → ByteArray) (cv : Nat → Bool) (S : Nat → Prop) (G B : Nat) (mk : Bool)
    (hk : Row .u8 w A0 n0 K) (hx : RowS w A1 n1 X) (hK : ∀ i, i < n0 → 0 ≤ K i ∧ K i ≤ 255) (hX : ∀ i, i < n1 → (X i).size ≤ 1048576) (h0 : n ≤ n0) (h1 : n ≤ n1) (hn : n ≤ 4096)
    (ht : ∀ i, i < n → TAt w T (i * 7) (Fp (zF K X) cv [] i)) (hc : RowB w C n cv) (hp : PS w S G B mk (Lp (zF K X) cv [] n)) :
    Calls Tryd.prog 12 #[.pointer (some ⟨B, 0, none⟩), .slice (some ⟨T, 0, none⟩) n cT, .slice A0 n0 c0, .slice A1 n1 c1, .slice C n cC, .bool mk] w (Gv (.bool true) w) := by
  have HK := Lib.hid hk; have HX := Lib.hid hx; have HT := Lib.hid ht; have HC := Lib.hid hc; have HP := Lib.hid hp; have HS := Lib.hid hX; have HB := Lib.hid hK
  clear hk hx ht hc hp hX hK
  obtain ⟨L, hL⟩ : ∃ L, L = Lp (zF K X) cv [] := ⟨_, rfl⟩
  have hfitL : Hid (∀ k, FitS (L k) k) := Lib.hid (fun k => by rw [hL]; have := Lp_fit (zF K X) cv [] 0 (FitS.nil 0) k; rwa [Nat.zero_add] at this)
  have hsucc : Hid (∀ k, L (k + 1) = if cv k = true then addS (L k) (X k) else L k) := Lib.hid (fun k => by rw [hL]; rfl)
  have hL0 : Hid (L 0 = []) := Lib.hid (by rw [hL]; rfl)
  have HP' : Hid (PS w S G B mk (L n)) := Lib.hid (by rw [hL]; exact HP.out)
  have HT' : Hid (∀ i, i < n → TAt w T (i * 7) (if cv i = true then ⟨.pointer none, X i, 0, numS (L i) (X i), 0, 39, 0⟩ else ⟨.pointer none, X i, 0, 0, 0, kindF (codeF (K i)), 0⟩)) := Lib.hid (fun i hi => by rw [hL]; exact HT.out i hi)
  clear HP HT hL
  have hm1 := make0_z (P := Tryd.prog) #[.string ⟨#[]⟩] Tryd.underlying23 info9 n (by omega) (by omega)
  have hm2 := make0_z (P := Tryd.prog) #[.int .u32 0] Tryd.underlying47 info36 n (by omega) (by omega)
  simp only [Nat.mul_one] at hm1 hm2
  go_enter Tryd.func12, Tryd.ntmps12
  go_upto_region 4 with fail
  refine wp_gen (fun W0 hW => ?_)
  have st : Hid (M2 w W0 (.slice (some ⟨w.heap.size, 0, none⟩) 0 n) (.slice (some ⟨w.heap.size + 1, 0, none⟩) 0 n) []) := Lib.hid (by
    have q1 : (w.alloc (.cells (madeCells #[.string ⟨#[]⟩] n) 9)).ownsRow w.heap.size 9 1 (.slice (some ⟨w.heap.size, 0, none⟩) 0 n) 0 [] := World.ownsRow_made w _ n (Nat.le_refl _) (by unfold maxLen; omega) (by simp [size_madeCells])
    have q2 : ((w.alloc (.cells (madeCells #[.string ⟨#[]⟩] n) 9)).alloc (.cells (madeCells #[.int .u32 0] n) 36)).ownsRow w.heap.size 36 1 (.slice (some ⟨w.heap.size + 1, 0, none⟩) 0 n) 0 [] := by
      have := World.ownsRow_made (base := w.heap.size) (w.alloc (.cells (madeCells #[.string ⟨#[]⟩] n) 9)) (madeCells #[.int .u32 0] n) n (e := 36) (size := 1) (by simp) (by unfold maxLen; omega) (by simp [size_madeCells])
      simpa using this
    rw [hW]
    exact ⟨(ba w _).alloc (by simp) _, (Kp.of (S := fun _ => False) (ba _ _)).own q1 (fun _ _ q => q), q2, fun k e q => by simp [Value.ownBlock] at e q; omega⟩)
  clear hW hm1 hm2
  go_wp2
  go_loopw [14, 15, 16] (fun u1 u2 i wr => ∃ (k : Nat) (v1 v2 : Value), u1 = v1 ∧ u2 = v2 ∧ i = .int .i64 k ∧ k ≤ n ∧ M2 w wr v1 v2 (L k)) (fun _ _ i _ => n - (intOf i).toNat)
  case atStart => exact ⟨0, _, _, rfl, rfl, rfl, by omega, by rw [hL0.out]; exact st.out⟩
  case round =>
    clear st
    obtain ⟨k, v1, v2, rfl, rfl, rfl, hk, hM⟩ := hrel
    obtain ⟨a1, c1', rfl, -, -⟩ := own_shape hM.o1
    obtain ⟨a2, c2', rfl, -, -⟩ := own_shape hM.o2
    have hB := Lib.hid hM.bel
    have hfit := hfitL.out k
    have hlen := hfit.len
    replace hfit := Lib.hid hfit
    replace hM := Lib.hid hM
    by_cases hlt : k < n
    · have tk := (HT'.out k hlt).after hB.out
      have etx : (if cv k = true then (⟨.pointer none, X k, 0, numS (L k) (X k), 0, 39, 0⟩ : Tk) else ⟨.pointer none, X k, 0, 0, 0, kindF (codeF (K k)), 0⟩).tx = X k := by split <;> rfl
      have d1 := tk.c1
      have d3 := tk.c3
      have d5 := tk.c5
      rw [etx] at d1
      clear tk etx
      obtain ⟨x0, rfl, q0⟩ := (HK.out.after hB.out) k (by omega)
      obtain ⟨x1, rfl, q1⟩ := (HX.out.after hB.out) k (by omega)
      obtain ⟨xc, rfl, qc⟩ := (HC.out.after hB.out) k hlt
      have hsz := HS.out k (by omega)
      have i0 : (0 : Int) ≤ k := by omega
      have i1 : (k : Int) < n := by omega
      have i2 : (k : Int) < n0 := by omega
      have i3 : (k : Int) < n1 := by omega
      have y1 := fun d os => cell_regrown d1 d os
      have y2 := fun d os => cell_regrown q1 d os
      go_upto_region 7 with fail
      refine drawn_tail 9 (by kernel_rfl) (by kernel_rfl) (by kernel_rfl) (fun Q hQ => ?_)
      simp only [List.take_succ_cons, List.take_zero, List.drop_succ_cons, List.drop_zero]
      repeat (quiet_step (fail))
      refine wpQuiet_nil ?_
      intro W2 hw
      have hb1 : Below wr.heap.size wr W2 := by
        obtain ⟨⟨d, os⟩, rfl⟩ := hw
        exact below_regrown _ d os
      clear hw y1 y2
      replace q0 := ac hb1 q0; replace q1 := ac hb1 q1; replace qc := ac hb1 qc; replace d3 := ac hb1 d3; replace d5 := ac hb1 d5
      replace hM := Lib.hid (hM.out.below hb1)
      replace hB := Lib.hid hM.out.bel
      clear hb1 d1
      cases hcv : cv k with
      | false =>
        rw [hcv] at qc
        rw [hcv] at d3 d5
        simp only [Bool.false_eq_true, if_false] at d3 d5
        have eL : L (k + 1) = L k := by rw [hsucc.out, if_neg (by simp [hcv])]
        replace eL := Lib.hid eL
        have hkk := HB.out k (by omega)
        have C11 := Lib.hid (fun d os => code11_c (K k) hkk.1 hkk.2 (Sort.grow (redrawn W2 d) os))
        have C19 := Lib.hid (fun d os => kind19_c (codeF (K k)) (Sort.grow (redrawn W2 d) os))
        have y0 := fun d os => cell_regrown q0 d os
        have y3 := fun d os => cell_regrown d3 d os
        have y5 := fun d os => cell_regrown d5 d os
        go_upto_region 23 with fail
        refine drawn_tail 19 (by kernel_rfl) (by kernel_rfl) (by kernel_rfl) (fun Q hQ => ?_)
        simp only [List.take_succ_cons, List.take_zero, List.drop_succ_cons, List.drop_zero]
        repeat (quiet_step (first | exact Calls.regrown_of ((C11.out _ _).mono fun e w' h => ⟨h.1, by rw [← h.2]; exact Below.refl _ _⟩) | exact Calls.regrown_of ((C19.out _ _).mono fun e w' h => ⟨h.1, by rw [← h.2]; exact Below.refl _ _⟩)))
        refine wpQuiet_nil ?_
        intro W3 hw
        have hb1 : Below W2.heap.size W2 W3 := by
          obtain ⟨⟨d, os⟩, rfl⟩ := hw
          exact below_regrown _ d os
        clear hw y5 y3 y0 C11 C19
        have hM3 := Lib.hid (hM.out.below hb1)
        clear hb1
        go_wp2
        go_roundw
        case rel => exact ⟨k + 1, _, _, rfl, rfl, by go_num, by omega, by rw [eL.out]; exact hM3.out⟩
        case measure => simp [intOf]; omega
      | true =>
        rw [hcv] at qc
        rw [hcv] at d3 d5
        simp only [if_true] at d3 d5
        have eL : L (k + 1) = addS (L k) (X k) := by rw [hsucc.out, if_pos hcv]
        have hBw := hB.out.size
        have hTl : T < w.heap.size := block_lt_of_cell (HT'.out k hlt).c0
        have lo1 : Hid (∀ x, (Value.slice a1 (L k).length c1').ownBlock = some x → w.heap.size ≤ x ∧ x < W2.heap.size) := Lib.hid (fun x e => hM.out.o1.lt x e)
        have lo2 : Hid (∀ x, (Value.slice a2 (L k).length c2').ownBlock = some x → w.heap.size ≤ x ∧ x < W2.heap.size) := Lib.hid (fun x e => hM.out.o2.lt x e)
        go_wp2
        go_loopw [17, 18] (fun u i wi => ∃ j : Nat, u = .int .i64 (-1) ∧ i = .int .i64 j ∧ j ≤ (L k).length ∧ (∀ i r, i < j → (L k)[i]? = some r → r.name ≠ X k) ∧ Below W2.heap.size W2 wi) (fun _ i _ => (L k).length - (intOf i).toNat)
        case atStart => exact ⟨0, rfl, rfl, by omega, fun i r h => absurd h (by omega), Below.refl _ _⟩
        case round =>
          obtain ⟨j, rfl, rfl, hj, hno, hBi⟩ := hrel
          replace hno := Lib.hid hno
          have d3i := ac hBi d3; have d5i := ac hBi d5; have q1i := ac hBi q1
          have hMi := Lib.hid (hM.out.below hBi)
          have hzi := hBi.size
          replace hBi := Lib.hid hBi
          clear d3 d5 q0 q1 qc
          by_cases hj2 : j < (L k).length
          · obtain ⟨r, hr⟩ : ∃ r, (L k)[j]? = some r := ⟨(L k)[j], List.getElem?_eq_getElem hj2⟩
            obtain ⟨xn, e, qn⟩ := rowN_of hMi.out.o1 j r hr
            subst e
            have j0 : (0 : Int) ≤ j := by omega
            have j1 : (j : Int) < (L k).length := by omega
            have y2 := fun d os => cell_regrown q1i d os
            by_cases hx : r.name = X k
            · rw [hx] at qn
              have y1 := fun d os => cell_regrown qn d os
              go_upto_region 14 with fail
              refine drawn_tail 8 (by kernel_rfl) (by kernel_rfl) (by kernel_rfl) (fun Q hQ => ?_)
              simp only [List.take_succ_cons, List.take_zero, List.drop_succ_cons, List.drop_zero]
              repeat (quiet_step (fail))
              refine wpQuiet_nil ?_
              intro W3 hw
              have hb1 : Below wr.heap.size wr W3 := by
                obtain ⟨⟨d, os⟩, rfl⟩ := hw
                exact below_regrown _ d os
              clear hw y1 y2 qn
              replace d3i := ac hb1 d3i; replace d5i := ac hb1 d5i
              replace hMi := Lib.hid (hMi.out.below hb1)
              clear hb1 q1i
              have hidx := idxS_at hr hx hno.out
              have hub := hfit.out.uses _ (List.mem_of_getElem? hr)
              have hru : (L k)[j]? = some ⟨X k, r.uses⟩ := by rw [hr, ← hx]
              obtain ⟨u, hu⟩ : ∃ u, u = r.uses := ⟨_, rfl⟩
              rw [← hu] at hub hru
              clear hu hr hx
              have en : numS (L k) (X k) = j := by unfold numS; rw [hidx]; rfl
              have ea : addS (L k) (X k) = (L k).set j ⟨X k, u + 1⟩ := by unfold addS; rw [hidx]; simp only [hru, Option.map_some, Option.getD_some]
              rw [en] at d3i
              rw [ea] at eL
              clear en ea hidx
              replace eL := Lib.hid eL
              obtain ⟨g, c4, e2, -, -, -, -⟩ := own_some hMi.out.o2 (by omega)
              injection e2 with e2 _ e3
              subst e2
              subst e3
              have hcell := hMi.out.o2.cellAt j (by omega)
              have hx : (usV (L k))[j]? = some (.int .u32 u) := by rw [List.getElem?_map, hru]; rfl
              have hcell' : W3.cell? ⟨g, j, none⟩ = some (.int .u32 u) := hcell.trans hx
              have hfz := hMi.out.o2.frozenAt j
              have wl : IntKind.u32.wrap (u + 1) = u + 1 := by
                simp [IntKind.wrap, IntKind.bits, IntKind.signed]
                omega
              have wj := u32_small j (by omega)
              have hM6' := Lib.hid (M2.old hMi.out j (X k) u hru)
              have gT : ¬ T = g := fun q => by have := (lo2.out g rfl).1; omega
              replace hru := Lib.hid hru
              clear hcell hx
              go_upto_region 21 with fail
              refine wp_gen (fun W6 hW => ?_)
              have hM6 : Hid (M2 w W6 (.slice (some xn) (L k).length c1') (.slice (some ⟨g, 0, none⟩) (L k).length c2') ((L k).set j ⟨X k, u + 1⟩)) := Lib.hid (by rw [hW]; exact hM6'.out)
              have g3 : W6.cell? ⟨T, k * 7 + 3, none⟩ = some (.int .u32 (j : Int)) := by rw [hW, co (by intro q; injection q with q; exact gT q.symm)]; exact d3i
              have g5 : W6.cell? ⟨T, k * 7 + 5, none⟩ = some (.int .u8 39) := by rw [hW, co (by intro q; injection q with q; exact gT q.symm)]; exact d5i
              clear hW d3i d5i hcell' hfz hM6' hMi hM
              go_wp2
              go_roundw
              case rel => exact ⟨k + 1, _, _, rfl, rfl, by go_num, by omega, by rw [eL.out]; exact hM6.out⟩
              case measure => simp [intOf]; omega
            · have y1 := fun d os => cell_regrown qn d os
              have b0 := tl_ne hx
              go_upto_region 14 with fail
              refine drawn_tail 8 (by kernel_rfl) (by kernel_rfl) (by kernel_rfl) (fun Q hQ => ?_)
              simp only [List.take_succ_cons, List.take_zero, List.drop_succ_cons, List.drop_zero]
              repeat (quiet_step (fail))
              refine wpQuiet_nil ?_
              intro W3 hw
              have hb1 : Below wr.heap.size wr W3 := by
                obtain ⟨⟨d, os⟩, rfl⟩ := hw
                exact below_regrown _ d os
              clear hw y1 y2
              have hB3 := Lib.hid (hBi.out.trans (hb1.mono hBi.out.size))
              have hno' : Hid (∀ i r, i < j + 1 → (L k)[i]? = some r → r.name ≠ X k) := Lib.hid (fun i r' hi hr' => by
                by_cases e : i = j
                · subst e; rw [hr] at hr'; injection hr' with hr'; subst hr'; exact hx
                · exact hno.out i r' (by omega) hr')
              clear hb1 hx hr
              go_wp2
              go_roundw
              case rel => exact ⟨j + 1, rfl, by go_num, by omega, hno'.out, hB3.out⟩
              case measure => simp [intOf]; omega
          · obtain rfl : j = (L k).length := by omega
            have hidx := idxS_no hno.out
            have en : numS (L k) (X k) = (L k).length := by unfold numS; rw [hidx]; rfl
            have ea : addS (L k) (X k) = L k ++ [⟨X k, 1⟩] := by unfold addS; rw [hidx]
            rw [en] at d3i
            rw [ea] at eL
            clear en ea hidx hno
            replace eL := Lib.hid eL
            have o13 := Lib.hid hMi.out.o1
            have hw3 : w.heap.size ≤ wr.heap.size := by omega
            go_upto_region 18 with (at_builtin; go_loud (refine app1n (w := wr) (.tmp 65) (.tmp 70) 23 9 w.heap.size 1 16 #[.string ⟨#[]⟩] #[.string (X k)] (.slice a1 (L k).length c1') (L k).length _ rfl rfl rfl rfl rfl Tryd.underlying23 info9 rfl (by omega) o13.out rfl (one9 _) (by omega) (by omega) hw3 ?_); intro v3 W4 o4 k4 n4; replace o4 := Lib.hid o4; replace k4 := Lib.hid k4; replace n4 := Lib.hid n4)
            have hz4 := k4.out.size
            have o24 : Hid (W4.ownsRow w.heap.size 36 1 (.slice a2 (L k).length c2') (L k).length (usV (L k))) := Lib.hid (k4.out.own hMi.out.o2 (fun x q q' => hMi.out.d3 x q' q))
            have d3b := k4.out.cell d3i (fun q => by have := (lo1.out _ q).1; simp only at this; omega)
            have d5b := k4.out.cell d5i (fun q => by have := (lo1.out _ q).1; simp only at this; omega)
            clear d3i d5i q1i o13
            have hw4 : w.heap.size ≤ W4.heap.size := by omega
            go_upto_region 19 with (at_builtin; go_loud (refine app1n (w := W4) (.tmp 72) (.tmp 73) 47 36 w.heap.size 1 4 #[.int .u32 0] #[.int .u32 0] (.slice a2 (L k).length c2') (L k).length _ rfl rfl rfl rfl rfl Tryd.underlying47 info36 rfl (by omega) o24.out rfl (one36 _) (by omega) (by omega) hw4 ?_); intro v4 W5 o5 k5 n5; obtain ⟨g, c4, rfl, -, -, -, -⟩ := own_some o5 (by omega); replace n5 := Lib.hid (n5 g rfl); replace o5 := Lib.hid o5; replace k5 := Lib.hid k5)
            have d3c := k5.out.cell d3b (fun q => by have := (lo2.out _ q).1; simp only at this; omega)
            have d5c := k5.out.cell d5b (fun q => by have := (lo2.out _ q).1; simp only at this; omega)
            have hz5 := k5.out.size
            have hcell := o5.out.cellAt (L k).length (by omega)
            have hx : (usV (L k) ++ [Value.int .u32 0])[(L k).length]? = some (.int .u32 0) := by
              rw [List.getElem?_append_right (by simp)]; simp
            have hcell' : W5.cell? ⟨g, (L k).length, none⟩ = some (.int .u32 0) := hcell.trans hx
            have hfz := o5.out.frozenAt (L k).length
            have j0 : (0 : Int) ≤ ((L k).length : Int) := by omega
            have j1 : ((L k).length : Int) < ((L k).length : Int) + 1 := by omega
            have wj := u32_small (L k).length (by omega)
            obtain ⟨a3, c3, e3, -, -⟩ := own_shape o4.out
            subst e3
            have gT : ¬ T = g := fun q => by
              have := (o5.out.lt g rfl).1
              omega
            have hM6' := Lib.hid (M2.new hMi.out (X k) o4.out k4.out n4.out o5.out k5.out n5.out)
            clear d3b d5b o24 hcell hx
            go_upto_region 21 with fail
            refine wp_gen (fun W6 hW => ?_)
            have hM6 : Hid (M2 w W6 (.slice a3 ((L k).length + 1) c3) (.slice (some ⟨g, 0, none⟩) ((L k).length + 1) c4) (L k ++ [⟨X k, 1⟩])) := Lib.hid (by rw [hW]; exact hM6'.out)
            have g3 : W6.cell? ⟨T, k * 7 + 3, none⟩ = some (.int .u32 ((L k).length : Int)) := by rw [hW, co (by intro q; injection q with q; exact gT q.symm)]; exact d3c
            have g5 : W6.cell? ⟨T, k * 7 + 5, none⟩ = some (.int .u8 39) := by rw [hW, co (by intro q; injection q with q; exact gT q.symm)]; exact d5c
            clear hW d3c d5c hcell' hfz hM6' hMi hM o5 k5 n5 o4 k4 n4
            go_wp2
            go_roundw
            case rel => exact ⟨k + 1, _, _, rfl, rfl, by go_num, by omega, by rw [eL.out]; exact hM6.out⟩
            case measure => simp [intOf]; omega
    · obtain rfl : k = n := by omega
      obtain ⟨wo, rfl⟩ : ∃ wo, wo = wr := ⟨_, rfl⟩
      have hN := Lib.hid (rowN_of hM.out.o1)
      have hU := Lib.hid (rowU_of hM.out.o2)
      have hPo := Lib.hid (HP'.out.below hB.out)
      have C15 := Lib.hid (cnt9_c wo S G B mk (L k) hPo.out)
      clear hM HT' hsucc hL0 hfitL
      cases mk
      · go_upto_region 27 with (go_at_call 15; (with_reducible refine C15.out.mono ?_); rintro e w6 ⟨rfl, hb6⟩; replace hb6 := Lib.hid hb6)
        go_wp2
        go_loopw [20] (fun i wi => ∃ j : Nat, j ≤ (L k).length ∧ i = .int .i64 j ∧ Below wo.heap.size wo wi) (fun i _ => (L k).length - (intOf i).toNat)
        case atStart => exact ⟨0, by omega, rfl, hb6.out⟩
        case round =>
          clear hb6 C15
          obtain ⟨j, hj, rfl, hBj⟩ := hrel
          have hPj := Lib.hid (hPo.out.below hBj)
          replace hBj := Lib.hid hBj
          by_cases hj2 : j < (L k).length
          · obtain ⟨r, hr⟩ : ∃ r, (L k)[j]? = some r := ⟨(L k)[j], List.getElem?_eq_getElem hj2⟩
            obtain ⟨xn, en, qn⟩ := (hN.out.after hBj.out) j r hr
            obtain ⟨xu, eu, qu⟩ := (hU.out.after hBj.out) j r hr
            subst en eu
            have j0 : (0 : Int) ≤ j := by omega
            have j1 : (j : Int) < (L k).length := by omega
            have C22 := Lib.hid (fun d os => rd20_c (Sort.grow (redrawn wr d) os) S G B false (L k) (hPj.out.below (below_regrown wr d os)) j r hr)
            have y1 := fun d os => cell_regrown qn d os
            go_upto_region 33 with fail
            refine drawn_tail 7 (by kernel_rfl) (by kernel_rfl) (by kernel_rfl) (fun Q hQ => ?_)
            simp only [List.take_succ_cons, List.take_zero, List.drop_succ_cons, List.drop_zero]
            repeat (quiet_step (exact Calls.regrown_of (C22.out _ _)))
            refine wpQuiet_nil ?_
            intro W2 hw
            have hb1 : Below wr.heap.size wr W2 := by
              obtain ⟨⟨d, os⟩, rfl⟩ := hw
              exact below_regrown _ d os
            clear hw
            have hP2 := Lib.hid (hPj.out.below hb1)
            have qu' := ac hb1 qu
            have hB2 := Lib.hid (hBj.out.trans (hb1.mono hBj.out.size))
            clear y1 C22 hb1 hBj hPj qn qu
            go_upto_region 35 with fail
            have C16 := Lib.hid (fun d os => rd21_c (Sort.grow (redrawn W2 d) os) S G B false (L k) (hP2.out.below (below_regrown W2 d os)) j r hr)
            have y2 := fun d os => cell_regrown qu' d os
            refine drawn_tail 7 (by kernel_rfl) (by kernel_rfl) (by kernel_rfl) (fun Q hQ => ?_)
            simp only [List.take_succ_cons, List.take_zero, List.drop_succ_cons, List.drop_zero]
            repeat (quiet_step (exact Calls.regrown_of (C16.out _ _)))
            refine wpQuiet_nil ?_
            intro W3 hw
            have hb1 : Below W2.heap.size W2 W3 := by
              obtain ⟨⟨d, os⟩, rfl⟩ := hw
              exact below_regrown _ d os
            clear hw
            have hB3 := Lib.hid (hB2.out.trans (hb1.mono hB2.out.size))
            have C23 := Lib.hid (rd26_c W3 S G B false (L k) (hP2.out.below hb1) j r hr)
            clear y2 C16 hb1 hB2 hP2 qu'
            go_wp2_with (go_at_call 23; (with_reducible refine C23.out.mono ?_); rintro e w9 ⟨rfl, hb9⟩; replace hB3 := Lib.hid (hB3.out.trans (hb9.mono hB3.out.size)); simp only [kd])
            go_roundw
            case rel => exact ⟨j + 1, by omega, by go_num, hB3.out⟩
            case measure => simp [intOf]; omega
          · obtain rfl : j = (L k).length := by omega
            have C24 := Lib.hid (cnt10_c wr S G B false (L k) hPj.out)
            simp only [Bool.false_eq_true, if_false] at C24
            go_wp2_with (go_at_call 24; (with_reducible refine C24.out.mono ?_); rintro e w9 ⟨rfl, hb9⟩; replace hBj := Lib.hid (hBj.out.trans (hb9.mono hBj.out.size)))
            go_ret
            exact ⟨rfl, hB.out.trans (hBj.out.mono hB.out.size)⟩
      · go_upto_region 27 with (go_at_call 15; (with_reducible refine C15.out.mono ?_); rintro e w6 ⟨rfl, hb6⟩; replace hb6 := Lib.hid hb6)
        go_wp2
        go_loopw [20] (fun i wi => ∃ j : Nat, j ≤ (L k).length ∧ i = .int .i64 j ∧ Below wo.heap.size wo wi) (fun i _ => (L k).length - (intOf i).toNat)
        case atStart => exact ⟨0, by omega, rfl, hb6.out⟩
        case round =>
          clear hb6 C15
          obtain ⟨j, hj, rfl, hBj⟩ := hrel
          have hPj := Lib.hid (hPo.out.below hBj)
          replace hBj := Lib.hid hBj
          by_cases hj2 : j < (L k).length
          · obtain ⟨r, hr⟩ : ∃ r, (L k)[j]? = some r := ⟨(L k)[j], List.getElem?_eq_getElem hj2⟩
            obtain ⟨xn, en, qn⟩ := (hN.out.after hBj.out) j r hr
            obtain ⟨xu, eu, qu⟩ := (hU.out.after hBj.out) j r hr
            subst en eu
            have j0 : (0 : Int) ≤ j := by omega
            have j1 : (j : Int) < (L k).length := by omega
            have C22 := Lib.hid (fun d os => rd20_c (Sort.grow (redrawn wr d) os) S G B true (L k) (hPj.out.below (below_regrown wr d os)) j r hr)
            have y1 := fun d os => cell_regrown qn d os
            go_upto_region 33 with fail
            refine drawn_tail 7 (by kernel_rfl) (by kernel_rfl) (by kernel_rfl) (fun Q hQ => ?_)
            simp only [List.take_succ_cons, List.take_zero, List.drop_succ_cons, List.drop_zero]
            repeat (quiet_step (exact Calls.regrown_of (C22.out _ _)))
            refine wpQuiet_nil ?_
            intro W2 hw
            have hb1 : Below wr.heap.size wr W2 := by
              obtain ⟨⟨d, os⟩, rfl⟩ := hw
              exact below_regrown _ d os
            clear hw
            have hP2 := Lib.hid (hPj.out.below hb1)
            have qu' := ac hb1 qu
            have hB2 := Lib.hid (hBj.out.trans (hb1.mono hBj.out.size))
            clear y1 C22 hb1 hBj hPj qn qu
            go_upto_region 35 with fail
            have C16 := Lib.hid (fun d os => rd21_c (Sort.grow (redrawn W2 d) os) S G B true (L k) (hP2.out.below (below_regrown W2 d os)) j r hr)
            have y2 := fun d os => cell_regrown qu' d os
            refine drawn_tail 7 (by kernel_rfl) (by kernel_rfl) (by kernel_rfl) (fun Q hQ => ?_)
            simp only [List.take_succ_cons, List.take_zero, List.drop_succ_cons, List.drop_zero]
            repeat (quiet_step (exact Calls.regrown_of (C16.out _ _)))
            refine wpQuiet_nil ?_
            intro W3 hw
            have hb1 : Below W2.heap.size W2 W3 := by
              obtain ⟨⟨d, os⟩, rfl⟩ := hw
              exact below_regrown _ d os
            clear hw
            have hB3 := Lib.hid (hB2.out.trans (hb1.mono hB2.out.size))
            have C23 := Lib.hid (rd26_c W3 S G B true (L k) (hP2.out.below hb1) j r hr)
            clear y2 C16 hb1 hB2 hP2 qu'
            go_wp2_with (go_at_call 23; (with_reducible refine C23.out.mono ?_); rintro e w9 ⟨rfl, hb9⟩; replace hB3 := Lib.hid (hB3.out.trans (hb9.mono hB3.out.size)); simp only [kd])
            go_roundw
            case rel => exact ⟨j + 1, by omega, by go_num, hB3.out⟩
            case measure => simp [intOf]; omega
          · obtain rfl : j = (L k).length := by omega
            have C24 := Lib.hid (cnt10_c wr S G B true (L k) hPj.out)
            simp only [if_true] at C24
            go_wp2_with (go_at_call 24; (with_reducible refine C24.out.mono ?_); rintro e w9 ⟨rfl, hb9⟩; replace hBj := Lib.hid (hBj.out.trans (hb9.mono hBj.out.size)))
            go_ret
            exact ⟨rfl, hB.out.trans (hBj.out.mono hB.out.size)⟩
/-- the flags that are filled -/
structure FillB (f : Nat → Bool) (w : World) (T n k : Nat) (wr : World) : Prop where
  size : T < wr.heap.size
  row : ∀ i, i < k → wr.cell? ⟨T, i, none⟩ = some (.bool (f i))
  room : Room wr T n
theorem FillB.kept {f : Nat → Bool} {w wr w' : World} {T n k : Nat} {U : Nat → Prop} (h : FillB f w T n k wr) (hb : Kp U wr w') (hT : ¬ U T) : FillB f w T n k w' :=
  ⟨Nat.lt_of_lt_of_le h.size hb.size, fun i hi => hb.cell (h.row i hi) hT, fun j hj => by
    obtain ⟨v, a, b⟩ := h.room j hj
    exact ⟨v, hb.cell a hT, hb.froz a b hT⟩⟩
theorem FillB.step {f : Nat → Bool} {w wr : World} {T n k : Nat} (h : FillB f w T n k wr) (hk : k < n) : FillB f w T n (k + 1) (wr.setCell ⟨T, k, none⟩ (.bool (f k))) :=
  ⟨by simpa [World.setCell] using h.size, fun i hi => by
    by_cases e : i = k
    · subst e; obtain ⟨v, h1, h2⟩ := h.room i hk; exact cs h1
    · rw [co (by intro h; injection h; omega)]; exact h.row i (by omega), h.room.set _ _⟩
theorem FillB.rowB {f : Nat → Bool} {w wr : World} {T n : Nat} (h : FillB f w T n n wr) : RowB wr (some ⟨T, 0, none⟩) n f := fun i hi => ⟨_, rfl, by rw [own_add]; exact h.row i hi⟩
theorem hsL_eq {res : ByteArray → Bool} {mk : Bool} {F : Nat → Tk} {cv : Nat → Bool} {l : List SyR} {k : Nat} (hcv : stay lowS res mk (F k).kd (F k).tx = !cv k) : hsL lowS res mk (Lp F cv l k) (F k) = Lp F cv l (k + 1) := by
  rw [Lp]
  unfold hsL
  rw [hcv]
  cases cv k <;> rfl
/-- how the law's loop stands: the tokens, the parser, the flags in block C -/
structure PrC (w0 w : World) (S0 : Nat → Prop) (B : Nat) (mk : Bool) (T n : Nat) (F : Nat → Tk) (cv : Nat → Bool) (C : Nat) (k m : Nat) (wr : World) : Prop where
  it : PrIt w0 w S0 B mk T n F cv [] k wr
  ps : ∃ S : Nat → Prop, PS wr S w0.heap.size B mk (Lp F cv [] k) ∧ (∀ b, S b → S0 b ∨ w.heap.size ≤ b) ∧ ¬ S C
  fl : FillB cv w C n m wr
theorem PrC.below {w0 w wr w' : World} {S0 : Nat → Prop} {B : Nat} {mk : Bool} {T n : Nat} {F : Nat → Tk} {cv : Nat → Bool} {C k m : Nat} (h : PrC w0 w S0 B mk T n F cv C k m wr) (hT : T < w.heap.size) (hb : Below wr.heap.size wr w') : PrC w0 w S0 B mk T n F cv C k m w' := by
  obtain ⟨S, a, b, c⟩ := h.ps
  exact ⟨h.it.below hT hb, ⟨S, a.below hb, b, c⟩, h.fl.kept (U := fun _ => False) (Kp.of hb) id⟩
theorem PrC.store {w0 w wr : World} {S0 : Nat → Prop} {B : Nat} {mk : Bool} {T n : Nat} {F : Nat → Tk} {cv : Nat → Bool} {C k m : Nat} (h : PrC w0 w S0 B mk T n F cv C k m wr) (hm : m < n) (hT : T < w.heap.size) (hC : w.heap.size ≤ C) (h0 : w0.heap.size ≤ w.heap.size) : PrC w0 w S0 B mk T n F cv C k (m + 1) (wr.setCell ⟨C, m, none⟩ (.bool (cv m))) := by
  obtain ⟨S, a, b, c⟩ := h.ps
  have kk : Kp (fun b => b = C) wr (wr.setCell ⟨C, m, none⟩ (.bool (cv m))) := (Kp.refl wr).set ⟨C, m, none⟩ _ (.inl rfl)
  have a' : PS (wr.setCell ⟨C, m, none⟩ (.bool (cv m))) S w0.heap.size B mk (Lp F cv [] k) := a.kept kk (fun x q s => by subst q; exact c s)
  exact ⟨⟨h.it.le, h.it.kp.set ⟨C, m, none⟩ _ (.inr hC), ⟨S, a', b⟩, ⟨fun i hi => (h.it.tok.tok i hi).far (.inl (by show C ≠ T; omega)), fun j hj => by rw [fz]; exact h.it.tok.froz j hj⟩, h.it.bel.setCell (by show w0.heap.size ≤ C; omega) _⟩, ⟨S, a', b, c⟩, h.fl.step hm⟩
theorem PrC.call {res : ByteArray → Bool} {w0 w wr : World} (hL : Low lowS w0) (hR : Res res w0) (hI : Inv w0) (hG : 2 ≤ w0.heap.size) {S0 : Nat → Prop} {B : Nat} {mk : Bool} {T n k m : Nat} {F : Nat → Tk} {cv : Nat → Bool} {C : Nat} (hm : n < 1048576) (h : PrC w0 w S0 B mk T n F cv C k m wr) (hk : k < n) (hTw : T < w.heap.size) (hT0 : w0.heap.size ≤ T) (hTS : ¬ S0 T) (hlo : (F k).lo = 0) (hs : (F k).tx.size ≤ 1048576) (hC : w.heap.size ≤ C)
    (hcv : stay lowS res mk (F k).kd (F k).tx = !cv k) : Calls Tryd.prog 20 #[.pointer (some ⟨B, 0, none⟩), .pointer (some ⟨T, k * 7, none⟩)] wr (fun e w' => e = .returned (.tuple #[]) ∧ PrC w0 w S0 B mk T n F cv C (k + 1) m w') := by
  obtain ⟨S', hps, hS', hCS⟩ := h.ps
  have hGS : ∀ b, S' b → w0.heap.size ≤ b := fun b q => (hps.lt b q).2
  have hTS' : ¬ S' T := fun h => by rcases hS' T h with q | q; exact hTS q; omega
  have tk := h.it.tok.tok k hk
  have e0 : Fk F cv [] k k = F k := by unfold Fk; rw [if_neg (by omega)]
  rw [e0] at tk
  refine (hs20_c lowS res w0 _ hL hR hI h.it.bel S' B mk (Lp F cv [] k) (0 + k) (Lp_fit F cv [] 0 (FitS.nil 0) k) (by omega) hps hG T (k * 7) (F k) tk hlo hs (lowS_size _ hs) hTS' hT0 (fun j hj => h.it.tok.froz _ (by omega))).mono fun e w' ⟨he, hh⟩ => ⟨he, h.it.step hk hTw hT0 hcv hS' hGS hh, ?_, h.fl.kept hh.kp (fun q => ?_)⟩
  · obtain ⟨S'', a, b⟩ := hh.ps
    rw [hsL_eq hcv] at a
    have hz := h.it.kp.size
    have hCl := h.fl.size
    exact ⟨S'', a, fun x q => by rcases b x q with q | q; exact hS' x q; exact .inr (by omega), fun q => by rcases b C q with q | q; exact hCS q; omega⟩
  · rcases q with q | q
    · exact hCS q
    · omega
def cvA (mk : Bool) (K : Nat → Int) (X : Nat → ByteArray) (i : Nat) : Bool := accF mk (codeF (K i)) (X i)
theorem hs9_w (B T o : Nat) (w : World) (Q : World → Prop) (h : Calls Tryd.prog 20 #[.pointer (some ⟨B, 0, none⟩), .pointer (some ⟨T, o, none⟩)] w (fun e w' => e = .returned (.tuple #[]) ∧ Q w')) :
    Calls Tryd.prog 9 #[.pointer (some ⟨B, 0, none⟩), .pointer (some ⟨T, o, none⟩)] w (fun e w' => e = .returned (.tuple #[]) ∧ Q w') := by
  have H := Lib.hid h
  clear h
  go_enter Tryd.func9, Tryd.ntmps9
  go_wp2_with (go_at_call 20; (with_reducible refine H.out.mono ?_); rintro e w1 ⟨rfl, hq⟩; replace hq := Lib.hid hq)
  exact bodyPost_end (v := .tuple #[]) (by simp [results, Tryd.results9, go_sem]) rfl ⟨rfl, hq.out⟩
set_option maxRecDepth 100000 in
set_option maxHeartbeats 4000000 in
theorem walk3 (A0 A1 : Option Addr) (n0 c0 n1 c1 : Nat) (K : Nat → Int) (X : Nat → ByteArray) (mk : Bool) (w : World) (hL : Low lowS w) (hR : Res resM w) (hI : Inv w) (hG : 2 ≤ w.heap.size) (hk : Row .u8 w A0 n0 K) (hx : RowS w A1 n1 X) (hn0 : n0 ≤ maxLen) (hn1 : n1 ≤ maxLen) (hK : ∀ i, i < n0 → 0 ≤ K i ∧ K i ≤ 255) (hX : ∀ i, i < n1 → (X i).size ≤ maxLen) :
    Calls Tryd.prog 3 #[.slice A0 n0 c0, .slice A1 n1 c1, .bool mk] w (fun e w' => e = .returned (.bool true) ∧ Below w.heap.size w w') := by
  have C5 := Lib.hid (bytes5_c A0 A1 n0 c0 n1 c1 X mk w hx hn0 hn1 hX)
  have hL' := Lib.hid hL; have hR' := Lib.hid hR; have hI' := Lib.hid hI; have hk' := Lib.hid hk; have hx' := Lib.hid hx; have hK' := Lib.hid hK
  clear hL hR hI hk hx hn0 hn1 hX hK
  go_enter Tryd.func3, Tryd.ntmps3
  go_upto_region 3 with (go_at_call 5; (with_reducible refine C5.out.mono ?_); rintro e w1 ⟨x, rfl, hx1, rfl⟩; cases x)
  any_goals (go_ret; exact ⟨rfl, Below.refl _ _⟩)
  obtain ⟨hn0, hn1, hX⟩ := hx1 (by simp)
  have C6 := Lib.hid (big6_c A0 A1 n0 c0 n1 c1 X w hx'.out hn0 hn1 hX)
  replace hX := Lib.hid hX
  clear hx1 C5
  go_upto_region 5 with (go_at_call 6; (with_reducible refine C6.out.mono ?_); rintro e w1 ⟨y, rfl, hy, rfl⟩; cases y)
  any_goals (go_ret; exact ⟨rfl, Below.refl _ _⟩)
  obtain ⟨hm0, hm1⟩ := hy (by simp)
  clear hy C6 hn0 hn1
  obtain ⟨n, hn⟩ : ∃ n, n = Nat.min n0 n1 := ⟨_, rfl⟩
  have hl0 : n ≤ n0 := by rw [hn]; exact Nat.min_le_left _ _
  have hl1 : n ≤ n1 := by rw [hn]; exact Nat.min_le_right _ _
  have C7 := Lib.hid (build7_c A0 A1 n0 c0 n1 c1 n K X w hn (by omega) hk'.out hx'.out hK'.out)
  clear hn
  go_upto_region 6 with (go_at_call 7; (with_reducible refine C7.out.mono ?_); rintro e w1 ⟨T, rfl, hT1, hT2, hTok, hb1⟩; replace hTok := Lib.hid hTok; replace hb1 := Lib.hid hb1)
  clear C7
  have C8 := Lib.hid (new6_c mk w1)
  go_upto_region 7 with (go_at_call 8; (with_reducible refine C8.out.mono ?_); rintro e w2 ⟨B, S, rfl, hb2, hps⟩; replace hb2 := Lib.hid hb2; replace hps := Lib.hid hps)
  clear C8
  have hz1 := hb1.out.size
  have hz2 := hb2.out.size
  have hTS : ¬ S T := fun h => by have := hps.out.lt T h; omega
  have hb02 := Lib.hid (hb1.out.trans (hb2.out.mono hz1))
  obtain ⟨zc, hmk⟩ := make_any (b := 1) Tryd.underlying30 (show (Tryd.prog.info? 4).map (fun i => (i.zero.isSome, i.size, i.bytes)) = some (true, 1, 1) by kernel_rfl) n (by omega) (by omega)
  simp only [Nat.mul_one] at hmk
  go_upto_region 8 with fail
  refine wp_gen (fun W5 hW => ?_)
  have hb5 : Below w2.heap.size w2 W5 := by rw [hW]; exact ba _ _
  have hz5 : W5.heap.size = w2.heap.size + 1 := by rw [hW]; simp
  have HB0 : FillB (cvA mk K X) w2 w2.heap.size n 0 W5 := by rw [hW]; exact ⟨by simp, fun i hi => by omega, Room.made _ _ _ _⟩
  clear hW hmk
  have hCS : ¬ S w2.heap.size := fun h => by have := hps.out.lt _ h; omega
  have hb05 := Lib.hid (hb02.out.trans (hb5.mono (by omega)))
  have st : Hid (PrC w w2 S B mk T n (zF K X) (cvA mk K X) w2.heap.size 0 0 W5) := Lib.hid ⟨(PrIt.start (hps.out.base hz1) (hTok.out.below hb2.out hT2) hb02.out).below (by omega) hb5, ⟨S, (hps.out.base hz1).below hb5, fun b q => .inl q, hCS⟩, HB0⟩
  have hTw : T < w2.heap.size := by omega
  clear hb5 hps hTok hb02 hb1 hb2 HB0 hCS hb05
  go_wp2
  go_loopw [10] (fun i wr => ∃ k : Nat, i = .int .i64 k ∧ k ≤ n ∧ PrC w w2 S B mk T n (zF K X) (cvA mk K X) w2.heap.size k k wr) (fun i _ => n - (intOf i).toNat)
  case atStart => exact ⟨0, rfl, by omega, st.out⟩
  case round =>
    clear st
    obtain ⟨k, rfl, hkn, hP⟩ := hrel
    replace hP := Lib.hid hP
    by_cases hlt : k < n
    · have i0 : (0 : Int) ≤ k := by omega
      have i1 : (k : Int) < n := by omega
      have i2 : (k : Int) < n0 := by omega
      have i3 : (k : Int) < n1 := by omega
      have hstay : stay lowS resM mk (zF K X k).kd (zF K X k).tx = !cvA mk K X k := stay_acc resOk mk (codeF (K k)) (X k)
      have C9 := Lib.hid (hs9_w B T (k * 7) wr _ (hP.out.call hL'.out hR'.out hI'.out hG (by omega) hlt hTw hT1 hTS rfl (hX.out k (by omega)) (Nat.le_refl _) hstay))
      clear hstay
      go_upto_region 12 with (go_at_call 9; (with_reducible refine C9.out.mono ?_); rintro e w9 ⟨rfl, hP9⟩; replace hP9 := Lib.hid hP9)
      clear C9 hP
      have hB9 := Lib.hid hP9.out.it.bel
      obtain ⟨x0, rfl, q0⟩ := (hk'.out.after hB9.out) k (by omega)
      obtain ⟨x1, rfl, q1⟩ := (hx'.out.after hB9.out) k (by omega)
      have hkk := hK'.out k (by omega)
      have C11 := Lib.hid (fun d os => code11_c (K k) hkk.1 hkk.2 (Sort.grow (redrawn w9 d) os))
      have C10 := Lib.hid (fun d os => acc10_c (codeF (K k)) (X k) mk (hX.out k (by omega)) (Sort.grow (redrawn w9 d) os))
      have y0 := fun d os => cell_regrown q0 d os
      have y1 := fun d os => cell_regrown q1 d os
      refine drawn_tail 14 (by kernel_rfl) (by kernel_rfl) (by kernel_rfl) (fun Q hQ => ?_)
      simp only [List.take_succ_cons, List.take_zero, List.drop_succ_cons, List.drop_zero]
      repeat (quiet_step (first | exact Calls.regrown_of ((C11.out _ _).mono fun e w' h => ⟨h.1, by rw [← h.2]; exact Below.refl _ _⟩) | exact Calls.regrown_of (C10.out _ _)))
      refine wpQuiet_nil ?_
      intro W3 hw
      have hb1 : Below w9.heap.size w9 W3 := by
        obtain ⟨⟨d, os⟩, rfl⟩ := hw
        exact below_regrown _ d os
      clear hw y1 y0 C11 C10 q0 q1
      have hP3 := Lib.hid (hP9.out.below hTw hb1)
      obtain ⟨v9, c9, f9⟩ := hP3.out.fl.room k hlt
      have hP4 : Hid (PrC w w2 S B mk T n (zF K X) (cvA mk K X) w2.heap.size (k + 1) (k + 1) (W3.setCell ⟨w2.heap.size, k, none⟩ (.bool (accF mk (codeF (K k)) (X k))))) := Lib.hid (hP3.out.store hlt hTw (Nat.le_refl _) (by omega))
      clear hb1 hP9 hB9
      go_wp2
      go_roundw
      case rel => exact ⟨k + 1, by go_num, by omega, hP4.out⟩
      case measure => simp [intOf]; omega
    · obtain rfl : k = n := by omega
      obtain ⟨S1, hps1, -⟩ := hP.out.it.ps
      have hB9 := Lib.hid hP.out.it.bel
      have C12 := Lib.hid (check12_c wr A0 A1 (some ⟨w2.heap.size, 0, none⟩) n0 c0 n1 c1 k k T k K X (cvA mk K X) S1 w.heap.size B mk (hk'.out.after hB9.out) (hx'.out.after hB9.out) hK'.out hX.out hl0 hl1 (by omega) hP.out.it.toks.tok hP.out.fl.rowB hps1)
      clear hP hps1
      go_wp2_with (go_at_call 12; (with_reducible refine C12.out.mono ?_); rintro e w9 ⟨rfl, hb9⟩; replace hb9 := Lib.hid hb9)
      go_ret
      exact ⟨rfl, hB9.out.trans (hb9.out.mono hB9.out.size)⟩
end Go.Proofs.YtlmnnejfcieddaaDoor
