/- FnSwitchToSinglePositionsExact returns true at every argument (no condition). -/
import Derived.Test.YtpjkipemalebcaaSw5
set_option linter.unusedVariables false
set_option linter.unusedSimpArgs false
namespace Go.Proofs.Ytpjkipemalebcaa.fnSwitchToSinglePositionsExact
open Go.ChangeShapes Go.WideShapes Go.ChangeAt Go.RowKit
open Go.ChangeMaps (open_string shut_string)
open Go.Sort hiding Below
set_option maxRecDepth 100000
set_option maxHeartbeats 4000000
abbrev VarT (w : World) (P : Nat) (t : Tq) : Prop := w.ownsRow P 40 7 (.slice (some ⟨P, 0, none⟩) 1 1) 1 t.cells
theorem VarT.cells {w : World} {P : Nat} {s : Tq} (h : VarT w P s) (j : Nat) (hj : j < 7) : w.cell? ⟨P, j, none⟩ = s.cells[j]? := h.cellAt j (by omega)
theorem VarT.fr {w : World} {P : Nat} {s : Tq} (h : VarT w P s) (j : Nat) : w.frozen? ⟨P, j, none⟩ = false := h.frozenAt j
theorem own_below {w w' : World} {B : Nat} {e : TypeId} {z : Nat} {v : Value} {n : Nat} {xs : List Value} (h : w.ownsRow B e z v n xs) (hb : Below w.heap.size w w') : w'.ownsRow B e z v n xs := (Kp.of (S := fun _ => False) hb).own h (fun _ _ q => q)
/-- how many stops come of the first i -/
def Ou (K : Nat → Int) : Nat → Nat
  | 0 => 0
  | i + 1 => Ou K i + max (kk K i) 1
theorem Ou_le (K : Nat → Int) : ∀ i, Ou K i ≤ 3 * i
  | 0 => by simp [Ou]
  | i + 1 => by have := Ou_le K i; have := kk_lt K i; simp only [Ou]; omega
theorem outs_sum {K : Nat → Int} {L : List Stp} (hp : ∀ (j : Nat) (s : Stp), L[j]? = some s → s.pn = kk K j) : ∀ i, i ≤ L.length → ((L.take i).flatMap outs).length = Ou K i := by
  intro i
  induction i with
  | zero => intro _; simp [Ou]
  | succ i ih =>
    intro hi
    have h1 : L[i]? = some L[i] := List.getElem?_eq_getElem (by omega)
    rw [take_flat L i _ h1, List.length_append, ih (by omega), outs_len, hp i _ h1]; rfl
theorem outs_get {K : Nat → Int} {L : List Stp} (hp : ∀ (j : Nat) (s : Stp), L[j]? = some s → s.pn = kk K j) (i j : Nat) (s : Stp) (hs : L[i]? = some s) (hj : j < max (kk K i) 1) : (L.flatMap outs)[Ou K i + j]? = some (oneOf s j) := by
  have hi : i < L.length := (List.getElem?_eq_some_iff.1 hs).1
  have e : L = L.take i ++ (s :: L.drop (i + 1)) := by
    have hs' : L[i] = s := (List.getElem?_eq_some_iff.1 hs).2
    rw [← hs', List.getElem_cons_drop, List.take_append_drop]
  rw [e, List.flatMap_append, List.flatMap_cons, List.getElem?_append_right (by rw [outs_sum hp i (by omega)]; omega), outs_sum hp i (by omega)]
  rw [show Ou K i + j - Ou K i = j by omega, List.getElem?_append_left (by rw [outs_len, hp i s hs]; exact hj)]
  unfold outs
  rw [hp i s hs, List.getElem?_map, List.getElem?_range hj]; rfl
theorem outs_lt {K : Nat → Int} {L : List Stp} (hp : ∀ (j : Nat) (s : Stp), L[j]? = some s → s.pn = kk K j) (i j : Nat) (s : Stp) (hs : L[i]? = some s) (hj : j < max (kk K i) 1) : Ou K i + j < (L.flatMap outs).length := (List.getElem?_eq_some_iff.1 (outs_get hp i j s hs hj)).1
def LO (W6 : World) (K : Nat → Int) (n : Nat) (o q i : Value) (wr : World) : Prop := ∃ k : Nat, k ≤ n ∧ i = .int .i64 k ∧ o = .int .i64 (Ou K k) ∧ q = .int .i64 (Qs K k) ∧ Below W6.heap.size W6 wr
def LI (Wi : World) (K : Nat → Int) (k : Nat) (o q j : Value) (wr : World) : Prop := ∃ m o' q' : Nat, m ≤ kk K k ∧ j = .int .i64 m ∧ o = .int .i64 o' ∧ q = .int .i64 q' ∧ Hid (o' = Ou K k + m) ∧ Hid (q' = Qs K k + m) ∧ Below Wi.heap.size Wi wr
/-- what the law's loops look at -/
structure After (W6 : World) (K : Nat → Int) (X Y : Nat → ByteArray) (B : Nat) (v' : Value) (n : Nat) (L M : List Stp) (N : Nat) : Prop where
  len : L.length = n
  each : ∀ (j : Nat) (s : Stp), L[j]? = some s → s.co = colT (X j) ∧ s.mi = midT (Y j) ∧ s.pn = kk K j ∧ ∃ B0, W6.ownsRow B0 40 7 (psV s) (kk K j) (flat Tq.cells (posL (Qs K j) (kk K j) 1))
  own : W6.ownsRow B 44 15 v' N (flat Stp.cells M)
  get : ∀ (i j : Nat) (s : Stp), L[i]? = some s → j < max (kk K i) 1 → M[Ou K i + j]? = some (oneOf s j) ∧ Ou K i + j < N
  tot : Ou K n = N
theorem oneOf_zero (pa : Option Addr) (pn pc : Nat) (co mi : Tq) (h : pn = 0) : oneOf ⟨pa, pn, pc, co, mi⟩ 0 = ⟨pa, pn, pc, co, mi⟩ := by
  unfold oneOf; rw [if_neg (by simp only; omega)]; simp [cur]
theorem oneOf_at (b pn pc m : Nat) (co mi : Tq) (h : m < pn) : oneOf ⟨some ⟨b, 0, none⟩, pn, pc, co, mi⟩ m = ⟨some ⟨b, m * 7, none⟩, 1, pc - m, co, if m + 1 = pn then mi else tq0⟩ := by
  have e : (cur ⟨some ⟨b, 0, none⟩, pn, pc, co, mi⟩ m).pa = some ⟨b, m * 7, none⟩ := by
    unfold cur
    split
    · rename_i h; subst h; rfl
    · rfl
  unfold oneOf
  simp only
  by_cases h1 : m + 1 < pn
  · rw [if_pos h1, if_neg (by omega), e]
  · rw [if_neg h1, if_pos (by omega)]
    unfold cur at e ⊢
    simp only at e ⊢
    rw [e]
    congr 1
    omega

theorem After.of {w w' : World} {n : Nat} {K : Nat → Int} {X Y : Nat → ByteArray} {v v' : Value} {L : List Stp} (B0 : Nat) (h : Built w B0 K X Y 2 v n L) (hR : SwR w w' B0 K v n L v' n) : After w' K X Y w.heap.size v' n L (L.flatMap outs) (L.flatMap outs).length := by
  have ho := hR.own
  rw [List.take_of_length_le (by rw [h.len]; exact Nat.le_refl _)] at ho
  have hpn := fun j s hj => (h.each j s hj).2.2.1
  have htot := outs_sum hpn L.length (Nat.le_refl _)
  rw [List.take_of_length_le (Nat.le_refl _), h.len] at htot
  refine ⟨h.len, fun j s hj => ?_, ho, fun i j s hs hj => ⟨outs_get hpn i j s hs hj, outs_lt hpn i j s hs hj⟩, htot.symm⟩
  obtain ⟨a, b, c, -⟩ := h.each j s hj
  have := hR.toks j s hj
  have hjn : j < n := by rw [← h.len]; exact (List.getElem?_eq_some_iff.1 hj).1
  rw [if_pos hjn] at this
  exact ⟨a, b, c, B0, this⟩
theorem start_of {w : World} {n : Nat} {K : Nat → Int} {X Y : Nat → ByteArray} {v : Value} {L : List Stp} (B0 : Nat) (h : Built w B0 K X Y 2 v n L) : SwS w B0 K v n L ∧ SwR w w B0 K v n L (.slice none 0 0) 0 := by
  refine ⟨⟨h.len, fun j s hj => (h.each j s hj).2.2.1, h.sep, fun j s k hj hk => (h.each j s hj).2.2.2.lt k hk, fun k hk => (h.own.lt k hk).2⟩, ⟨h.own, fun j s hj => ?_, World.ownsRow_nil _ _ _ _, Below.refl _ _, Nat.le_refl _⟩⟩
  rw [if_neg (by omega)]
  exact (h.each j s hj).2.2.2
theorem main (a0 : Option Addr) (n0 : Nat) (c0 : Nat) (f0 : Nat → ByteArray) (a1 : Option Addr) (n1 : Nat) (c1 : Nat) (f1 : Nat → Int) (a2 : Option Addr) (n2 : Nat) (c2 : Nat) (f2 : Nat → ByteArray) (w : World) (w0 : ArgS w a0 n0 c0 f0) (w1 : ArgI .u8 w a1 n1 c1 f1) (w2 : ArgS w a2 n2 c2 f2) (h0 : n0 ≤ 65536) (h1 : n1 ≤ 65536) (h2 : n2 ≤ 65536) (hK : ∀ i, i < n1 → 0 ≤ f1 i ∧ f1 i ≤ 255) :
    Calls Try.prog 3 #[.slice a0 n0 c0, .slice a1 n1 c1, .slice a2 n2 c2] w fun e w' => e = .returned (.bool true) ∧ Below w.heap.size w w' := by
  have nil0 := w0.nil; have nil1 := w1.nil; have nil2 := w2.nil
  have le0 := w0.le; have le1 := w1.le; have le2 := w2.le; have mx0 := w0.max; have mx1 := w1.max; have mx2 := w2.max
  unfold maxLen at mx0 mx1 mx2
  have Z4 := Lib.hid (zz4_c a0 a1 a2 n0 n1 n2 c0 c1 c2 f0 f2 w (by unfold maxLen; omega) (by unfold maxLen; omega) (by unfold maxLen; omega) w0.row w2.row w0.wf w2.wf)
  have Z50 := Lib.hid (bytes5_c a0 n0 c0 f0 w (by omega) w0.wf w0.row)
  have Z52 := Lib.hid (bytes5_c a2 n2 c2 f2 w (by omega) w2.wf w2.row)
  have C0 := Lib.hid (fun w' (hb : Below w.heap.size w w') => clone6_c a0 n0 c0 f0 w' (by omega) nil0 (RowV.after (w := w) (fun i hi => w0.row i hi) hb))
  have C1 := Lib.hid (fun w' (hb : Below w.heap.size w w') => clone7_c a1 n1 c1 f1 w' (by omega) nil1 (RowV.after (w := w) (fun i hi => w1.row i hi) hb))
  have C2 := Lib.hid (fun w' (hb : Below w.heap.size w w') => clone6_c a2 n2 c2 f2 w' (by omega) nil2 (RowV.after (w := w) (fun i hi => w2.row i hi) hb))
  clear nil0 nil1 nil2 w0 w1 w2
  replace hK := Lib.hid hK
  go_enter Try.func3, Try.ntmps3
  go_upto_region 7 with (first | (go_at_call 4; (with_reducible refine Z4.out.mono ?_); rintro e w' ⟨b, rfl, rfl⟩; cases b) | (go_at_call 5; (with_reducible refine Z50.out.mono ?_); rintro e w' ⟨x0, rfl, rfl⟩) | (go_at_call 5; (with_reducible refine Z52.out.mono ?_); rintro e w' ⟨x2, rfl, rfl⟩))
  any_goals (go_ret; exact ⟨rfl, Below.refl _ _⟩)
  clear Z4 Z50 Z52
  go_upto_region 8 with (go_at_call 6; (with_reducible refine (C0.out _ (Below.refl _ _)).mono ?_); rintro e w3 ⟨A0, rfl, -, -, r0, hb3⟩; replace r0 := Lib.hid r0; replace hb3 := Lib.hid hb3)
  go_upto_region 9 with (go_at_call 7; (with_reducible refine (C1.out _ hb3.out).mono ?_); rintro e w4 ⟨A1, rfl, -, -, r1, hb⟩; replace r0 := Lib.hid (r0.out.after hb); replace r1 := Lib.hid r1; replace hb3 := Lib.hid (hb3.out.trans (hb.mono hb3.out.size)); clear hb)
  go_upto_region 10 with (go_at_call 6; (with_reducible refine (C2.out _ hb3.out).mono ?_); rintro e w5 ⟨A2, rfl, -, -, r2, hb⟩; replace r0 := Lib.hid (r0.out.after hb); replace r1 := Lib.hid (r1.out.after hb); replace r2 := Lib.hid r2; replace hb3 := Lib.hid (hb3.out.trans (hb.mono hb3.out.size)); clear hb)
  clear C0 C1 C2
  go_upto_region 11 with (first | (go_at_call 8; (with_reducible refine (min8_c n1 n2 (by unfold maxLen; omega) (by unfold maxLen; omega) _).mono ?_); rintro e w' ⟨rfl, rfl⟩) | (go_at_call 8; (with_reducible refine (min8_c n0 (min n1 n2) (by unfold maxLen; omega) (by unfold maxLen; omega) _).mono ?_); rintro e w' ⟨rfl, rfl⟩))
  have l0 : min n0 (min n1 n2) ≤ n0 := by omega
  have l1 : min n0 (min n1 n2) ≤ n1 := by omega
  have l2 : min n0 (min n1 n2) ≤ n2 := by omega
  generalize min n0 (min n1 n2) = n at *
  have hn : n ≤ 65536 := by omega
  have CB := Lib.hid (build9_c A0 A1 A2 n n0 n1 n2 n0 n1 n2 f1 f0 f2 w5 hn l0 l1 l2 (fun i hi => r0.out i hi) (fun i hi => r1.out i hi) (fun i hi => r2.out i hi) hK.out)
  go_upto_region 12 with (go_at_call 9; (with_reducible refine CB.out.mono ?_); rintro e w6 ⟨v, L, rfl, hBu, hb⟩; replace hBu := Lib.hid hBu; have hz56 := hb.size; replace hb := Lib.hid hb)
  clear CB
  have CS := Lib.hid (switch10_c w6 w5.heap.size f1 v n L hn (start_of _ hBu.out).1 (start_of _ hBu.out).2 hz56)
  go_upto_region 13 with (go_at_call 10; (with_reducible refine CS.out.mono ?_); rintro e w7 ⟨v', rfl, hR⟩; replace hR := Lib.hid hR)
  clear CS
  have hA := Lib.hid (After.of _ hBu.out hR.out)
  generalize (L.flatMap outs).length = N at hA
  generalize L.flatMap outs = M at hA
  have h57 : Below w5.heap.size w5 w7 := hb.out.trans hR.out.bel
  replace r0 := Lib.hid (r0.out.after h57); replace r1 := Lib.hid (r1.out.after h57); replace r2 := Lib.hid (r2.out.after h57); replace hb3 := Lib.hid (hb3.out.trans (h57.mono hb3.out.size))
  clear h57 hb hR hBu hz56
  obtain ⟨av, cv, hv, hcv, hcv'⟩ := own_shape hA.out.own
  unfold maxLen at hcv'
  subst hv
  go_wp2_with fail
  go_loopw [10, 11, 12] (fun o q i wr => LO w7 f1 n o q i wr) (fun _ _ i _ => n - (intOf i).toNat)
  case atStart => exact ⟨0, by omega, rfl, rfl, rfl, Below.refl _ _⟩
  case round =>
    obtain ⟨k, hk, rfl, rfl, rfl, hB⟩ := hrel
    obtain ⟨Wo, hWo⟩ : ∃ Wo, Wo = wr := ⟨_, rfl⟩
    subst hWo
    replace hB := Lib.hid hB
    by_cases hlt : k < n
    · obtain ⟨x1, rfl, g1⟩ := r1.out.after hB.out k (by omega)
      obtain ⟨x0', rfl, g0⟩ := r0.out.after hB.out k (by omega)
      obtain ⟨x2', rfl, g2⟩ := r2.out.after hB.out k (by omega)
      obtain ⟨hk0, hk1⟩ := hK.out k (by omega)
      have hkk : f1 k % 4 = (kk f1 k : Nat) := by unfold kk; omega
      have hk4 := kk_lt f1 k
      have hQ := Qs_le f1 k
      have hO := Ou_le f1 k
      obtain ⟨s, hs⟩ : ∃ s, L[k]? = some s := ⟨_, List.getElem?_eq_getElem (by rw [hA.out.len]; exact hlt)⟩
      obtain ⟨hsc, hsm, hsp, B0, hst⟩ := hA.out.each k s hs
      have hget := fun j (hj : j < max (kk f1 k) 1) => hA.out.get k j s hs hj
      obtain ⟨pa, pn, pc, sco, smi⟩ := s
      simp only at hsc hsm hsp
      subst hsc hsm hsp
      have hcN : N ≤ cv := hcv
      have i0 : (0 : Int) ≤ k := by omega
      have i1 : (k : Int) < n := by omega
      have i2 : (k : Int) < n0 := by omega
      have i3 : (k : Int) < n1 := by omega
      have i4 : (k : Int) < n2 := by omega
      replace hs := Lib.hid hs; replace hst := Lib.hid hst; replace hget := Lib.hid hget
      go_upto_region 19 with (go_at_call 11; (with_reducible refine (col11_c _ _).mono ?_); rintro e w8 ⟨rfl, hb⟩; replace hB := Lib.hid (hB.out.trans (hb.mono hB.out.size)); replace g1 := ac hb g1; replace g2 := ac hb g2; clear hb g0)
      refine wp_gen (fun W hW => ?_)
      have hV : Hid (VarT W w8.heap.size (colT (f0 k))) := Lib.hid (by rw [hW]; exact World.ownsRow_lit _ (Tq.arr (colT (f0 k))) 1 (Nat.le_refl _) (by decide) rfl)
      have hbW : Below w8.heap.size w8 W := by rw [hW]; exact ba _ _
      clear hW
      replace hB := Lib.hid (hB.out.trans (hbW.mono hB.out.size)); replace g1 := ac hbW g1; replace g2 := ac hbW g2
      clear hbW
      generalize w8.heap.size = PC at *
      go_upto_region 20 with (go_at_call 12; (with_reducible refine (mid12_c _ _).mono ?_); rintro e w9 ⟨rfl, hb⟩; replace hB := Lib.hid (hB.out.trans (hb.mono hB.out.size)); replace g1 := ac hb g1; replace hV := Lib.hid (own_below hV.out hb); clear hb g2)
      refine wp_gen (fun W9 hW => ?_)
      have hM : Hid (VarT W9 w9.heap.size (midT (f2 k))) := Lib.hid (by rw [hW]; exact World.ownsRow_lit _ (Tq.arr (midT (f2 k))) 1 (Nat.le_refl _) (by decide) rfl)
      have hbW : Below w9.heap.size w9 W9 := by rw [hW]; exact ba _ _
      clear hW
      replace hB := Lib.hid (hB.out.trans (hbW.mono hB.out.size)); replace g1 := ac hbW g1; replace hV := Lib.hid (own_below hV.out hbW)
      clear hbW
      generalize w9.heap.size = PM at *
      by_cases hk00 : kk f1 k = 0
      · have hz : (((kk f1 k : Nat) : Int) == 0) = true := by simp [hk00]
        as_aux_lemma =>
          obtain ⟨hg, hlo⟩ := hget.out 0 (by omega)
          rw [oneOf_zero _ _ _ _ _ hk00] at hg
          have hown := own_below hA.out.own hB.out
          obtain ⟨gv, cv2, hv2, -, -, -, -⟩ := own_some hown (by omega)
          simp only [Value.slice.injEq] at hv2
          obtain ⟨rfl, -, rfl⟩ := hv2
          have CL : ∀ j u, (Stp.cells ⟨pa, kk f1 k, pc, colT (f0 k), midT (f2 k)⟩)[j]? = some u → W9.cell? ⟨gv, Ou f1 k * 15 + j, none⟩ = some u := fun j u hj => own_at Stp.len hown hg hj
          have e0 := CL 0 _ rfl; have e1 := CL 1 _ rfl; have e2 := CL 2 _ rfl; have e3 := CL 3 _ rfl; have e4 := CL 4 _ rfl; have e5 := CL 5 _ rfl; have e6 := CL 6 _ rfl; have e7 := CL 7 _ rfl
          have e8 := CL 8 _ rfl; have e9 := CL 9 _ rfl; have e10 := CL 10 _ rfl; have e11 := CL 11 _ rfl; have e12 := CL 12 _ rfl; have e13 := CL 13 _ rfl; have e14 := CL 14 _ rfl
          simp only [Nat.add_zero] at e0
          clear CL hg hown
          have j0 : (0 : Int) ≤ (Ou f1 k : Nat) := by omega
          have j1 : ((Ou f1 k : Nat) : Int) < N := by omega
          replace hk00 := Lib.hid hk00
          go_upto_region 25 with fail
          clear g1 e0 e1 e2 e3 e4 e5 e6 e7 e8 e9 e10 e11 e12 e13 e14
          refine wp_gen (fun W hW => ?_)
          have hS : Hid (VarS W W9.heap.size ⟨pa, kk f1 k, pc, colT (f0 k), midT (f2 k)⟩) := Lib.hid (by rw [hW]; exact World.ownsRow_lit _ (Stp.arr ⟨pa, kk f1 k, pc, colT (f0 k), midT (f2 k)⟩) 1 (Nat.le_refl _) (by decide) rfl)
          have hbW : Below W9.heap.size W9 W := by rw [hW]; exact ba _ _
          clear hW
          replace hB := Lib.hid (hB.out.trans (hbW.mono hB.out.size)); replace hV := Lib.hid (own_below hV.out hbW); replace hM := Lib.hid (own_below hM.out hbW)
          clear hbW
          generalize W9.heap.size = PS at *
          have s0 := VarS.cells hS.out 0 (by omega); have s1 := VarS.cells hS.out 1 (by omega); have s2 := VarS.cells hS.out 2 (by omega); have s3 := VarS.cells hS.out 3 (by omega); have s4 := VarS.cells hS.out 4 (by omega); have s5 := VarS.cells hS.out 5 (by omega); have s6 := VarS.cells hS.out 6 (by omega); have s7 := VarS.cells hS.out 7 (by omega); have s8 := VarS.cells hS.out 8 (by omega); have s9 := VarS.cells hS.out 9 (by omega); have s10 := VarS.cells hS.out 10 (by omega); have s11 := VarS.cells hS.out 11 (by omega); have s12 := VarS.cells hS.out 12 (by omega); have s13 := VarS.cells hS.out 13 (by omega); have s14 := VarS.cells hS.out 14 (by omega)
          simp only [Stp.cells, Stp.arr, Tq.arr, List.getElem?_cons_succ, List.getElem?_cons_zero] at s0 s1 s2 s3 s4 s5 s6 s7 s8 s9 s10 s11 s12 s13 s14
          have c0 := VarT.cells hV.out 0 (by omega); have c1 := VarT.cells hV.out 1 (by omega); have c2 := VarT.cells hV.out 2 (by omega); have c3 := VarT.cells hV.out 3 (by omega); have c4 := VarT.cells hV.out 4 (by omega); have c5 := VarT.cells hV.out 5 (by omega); have c6 := VarT.cells hV.out 6 (by omega)
          simp only [Tq.cells, Tq.arr, List.getElem?_cons_succ, List.getElem?_cons_zero] at c0 c1 c2 c3 c4 c5 c6
          have d0 := VarT.cells hM.out 0 (by omega); have d1 := VarT.cells hM.out 1 (by omega); have d2 := VarT.cells hM.out 2 (by omega); have d3 := VarT.cells hM.out 3 (by omega); have d4 := VarT.cells hM.out 4 (by omega); have d5 := VarT.cells hM.out 5 (by omega); have d6 := VarT.cells hM.out 6 (by omega)
          simp only [Tq.cells, Tq.arr, List.getElem?_cons_succ, List.getElem?_cons_zero] at d0 d1 d2 d3 d4 d5 d6
          have qs0 := fun d os => cell_regrown s0 d os; have qs1 := fun d os => cell_regrown s1 d os; have qs2 := fun d os => cell_regrown s2 d os; have qs3 := fun d os => cell_regrown s3 d os; have qs4 := fun d os => cell_regrown s4 d os; have qs5 := fun d os => cell_regrown s5 d os; have qs6 := fun d os => cell_regrown s6 d os; have qs7 := fun d os => cell_regrown s7 d os; have qs8 := fun d os => cell_regrown s8 d os; have qs9 := fun d os => cell_regrown s9 d os; have qs10 := fun d os => cell_regrown s10 d os; have qs11 := fun d os => cell_regrown s11 d os; have qs12 := fun d os => cell_regrown s12 d os; have qs13 := fun d os => cell_regrown s13 d os; have qs14 := fun d os => cell_regrown s14 d os
          have qc0 := fun d os => cell_regrown c0 d os; have qc1 := fun d os => cell_regrown c1 d os; have qc2 := fun d os => cell_regrown c2 d os; have qc3 := fun d os => cell_regrown c3 d os; have qc4 := fun d os => cell_regrown c4 d os; have qc5 := fun d os => cell_regrown c5 d os; have qc6 := fun d os => cell_regrown c6 d os
          have qd0 := fun d os => cell_regrown d0 d os; have qd1 := fun d os => cell_regrown d1 d os; have qd2 := fun d os => cell_regrown d2 d os; have qd3 := fun d os => cell_regrown d3 d os; have qd4 := fun d os => cell_regrown d4 d os; have qd5 := fun d os => cell_regrown d5 d os; have qd6 := fun d os => cell_regrown d6 d os
          clear s0 s1 s2 s3 s4 s5 s6 s7 s8 s9 s10 s11 s12 s13 s14 c0 c1 c2 c3 c4 c5 c6 d0 d1 d2 d3 d4 d5 d6
          have hne : (((kk f1 k : Nat) : Int) != 0) = false := by simp [hk00.out]
          have D14 := Lib.hid (show ∀ w, Calls Try.prog 14 #[Stp.val ⟨pa, kk f1 k, pc, colT (f0 k), midT (f2 k)⟩] w (fun e w' => e = .returned (Tq.val (colT (f0 k))) ∧ Below w.heap.size w w') from fun w => sco14_c _ w)
          have D15 := Lib.hid (show ∀ w, Calls Try.prog 15 #[Stp.val ⟨pa, kk f1 k, pc, colT (f0 k), midT (f2 k)⟩] w (fun e w' => e = .returned (.slice pa (kk f1 k) pc) ∧ Below w.heap.size w w') from fun w => sps15_c _ w)
          have D16 := Lib.hid (show ∀ w, Calls Try.prog 16 #[Stp.val ⟨pa, kk f1 k, pc, colT (f0 k), midT (f2 k)⟩] w (fun e w' => e = .returned (Tq.val (midT (f2 k))) ∧ Below w.heap.size w w') from fun w => smi16_c _ w)
          have D13a := Lib.hid (show ∀ w, Calls Try.prog 13 #[Tq.val (colT (f0 k)), Tq.val (colT (f0 k))] w (fun e w' => e = .returned (.bool true) ∧ Below w.heap.size w w') from fun w => eq13_c _ w)
          have D13b := Lib.hid (show ∀ w, Calls Try.prog 13 #[Tq.val (midT (f2 k)), Tq.val (midT (f2 k))] w (fun e w' => e = .returned (.bool true) ∧ Below w.heap.size w w') from fun w => eq13_c _ w)
          refine drawn_tail 17 (by kernel_rfl) (by kernel_rfl) (by kernel_rfl) (fun Q hQ => ?_)
          simp only [List.take_succ_cons, List.take_zero, List.drop_succ_cons, List.drop_zero]
          repeat (quiet_step (first | (with_reducible exact Calls.regrown_of (D14.out _)) | (with_reducible exact Calls.regrown_of (D15.out _)) | (with_reducible exact Calls.regrown_of (D16.out _)) | (with_reducible exact Calls.regrown_of (D13a.out _)) | (with_reducible exact Calls.regrown_of (D13b.out _))))
          refine wpQuiet_nil ?_
          clear qs0 qs1 qs2 qs3 qs4 qs5 qs6 qs7 qs8 qs9 qs10 qs11 qs12 qs13 qs14 qc0 qc1 qc2 qc3 qc4 qc5 qc6 qd0 qd1 qd2 qd3 qd4 qd5 qd6
          intro W2 hw
          have hbW : Below W.heap.size W W2 := by obtain ⟨⟨d, os⟩, rfl⟩ := hw; exact below_regrown _ d os
          clear hw D14 D15 D16 D13a D13b
          have hBB := Lib.hid (hB.out.trans (hbW.mono hB.out.size))
          clear hbW hB hV hM hS
          go_wp2_with fail
          refine ⟨⟨k + 1, by omega, by go_num, ?_, ?_, hBB.out⟩, by simp [intOf]; omega⟩
          · simp only [Ou, hk00.out]; go_num
          · simp only [Qs, hk00.out]; rfl
      · have hz : (((kk f1 k : Nat) : Int) == 0) = false := by simp; omega
        go_upto_region 29 with fail
        clear g1 hz hkk
        as_aux_lemma =>
          obtain ⟨b, pc', hpa, -, -, hpl, -⟩ := own_some hst.out (by omega)
          simp only [psV, Value.slice.injEq] at hpa
          obtain ⟨rfl, -, rfl⟩ := hpa
          have hstB := Lib.hid (own_below hst.out hB.out)
          clear hst
          go_loopw [10, 11, 17] (fun o q j wr => LI W9 f1 k o q j wr) (fun _ _ j _ => kk f1 k - (intOf j).toNat)
          case atStart => exact ⟨0, Ou f1 k, Qs f1 k, by omega, rfl, rfl, rfl, Lib.hid rfl, Lib.hid rfl, Below.refl _ _⟩
          case round =>
            obtain ⟨m, o', q', hm, rfl, rfl, rfl, ho, hq, hBi⟩ := hrel
            obtain ⟨Wi, hWi⟩ : ∃ Wi, Wi = wr := ⟨_, rfl⟩
            subst hWi
            replace hBi := Lib.hid hBi
            have hq1 : q' < 100000000 := by have := hq.out; omega
            by_cases hmlt : m < kk f1 k
            · obtain ⟨hg, hlo⟩ := hget.out m (by omega)
              rw [oneOf_at _ _ _ _ _ _ hmlt, ← ho.out] at hg
              rw [← ho.out] at hlo
              obtain ⟨mi, hmi⟩ : ∃ mi, mi = if m + 1 = kk f1 k then midT (f2 k) else tq0 := ⟨_, rfl⟩
              rw [← hmi] at hg
              replace hmi := Lib.hid hmi
              have hBw : Hid (Below w7.heap.size w7 Wi) := Lib.hid (hB.out.trans (hBi.out.mono hB.out.size))
              have hown := own_below hA.out.own hBw.out
              obtain ⟨gv, cv2, hv2, -, -, -, -⟩ := own_some hown (by omega)
              simp only [Value.slice.injEq] at hv2
              obtain ⟨rfl, -, rfl⟩ := hv2
              have CL : ∀ j u, (Stp.cells ⟨some ⟨b, m * 7, none⟩, 1, pc - m, colT (f0 k), mi⟩)[j]? = some u → Wi.cell? ⟨gv, o' * 15 + j, none⟩ = some u := fun j u hj => own_at Stp.len hown hg hj
              have e0 := CL 0 _ rfl; have e1 := CL 1 _ rfl; have e2 := CL 2 _ rfl; have e3 := CL 3 _ rfl; have e4 := CL 4 _ rfl; have e5 := CL 5 _ rfl; have e6 := CL 6 _ rfl; have e7 := CL 7 _ rfl
              have e8 := CL 8 _ rfl; have e9 := CL 9 _ rfl; have e10 := CL 10 _ rfl; have e11 := CL 11 _ rfl; have e12 := CL 12 _ rfl; have e13 := CL 13 _ rfl; have e14 := CL 14 _ rfl
              simp only [Nat.add_zero] at e0
              clear CL hg hown
              have j0 : (0 : Int) ≤ (o' : Nat) := by omega
              have j1 : ((o' : Nat) : Int) < N := by omega
              go_upto_region 34 with fail
              clear e0 e1 e2 e3 e4 e5 e6 e7 e8 e9 e10 e11 e12 e13 e14
              refine wp_gen (fun W hW => ?_)
              have hS : Hid (VarS W Wi.heap.size ⟨some ⟨b, m * 7, none⟩, 1, pc - m, colT (f0 k), mi⟩) := Lib.hid (by rw [hW]; exact World.ownsRow_lit _ (Stp.arr ⟨some ⟨b, m * 7, none⟩, 1, pc - m, colT (f0 k), mi⟩) 1 (Nat.le_refl _) (by decide) rfl)
              have hbW : Below Wi.heap.size Wi W := by rw [hW]; exact ba _ _
              clear hW
              replace hBi := Lib.hid (hBi.out.trans (hbW.mono hBi.out.size))
              have hV1 := Lib.hid (own_below hV.out hBi.out); have hM1 := Lib.hid (own_below hM.out hBi.out); have hT1 := Lib.hid (own_below hstB.out hBi.out)
              clear hbW hBw
              generalize Wi.heap.size = PS at *
              have s0 := VarS.cells hS.out 0 (by omega); have s1 := VarS.cells hS.out 1 (by omega); have s2 := VarS.cells hS.out 2 (by omega); have s3 := VarS.cells hS.out 3 (by omega); have s4 := VarS.cells hS.out 4 (by omega); have s5 := VarS.cells hS.out 5 (by omega); have s6 := VarS.cells hS.out 6 (by omega); have s7 := VarS.cells hS.out 7 (by omega); have s8 := VarS.cells hS.out 8 (by omega); have s9 := VarS.cells hS.out 9 (by omega); have s10 := VarS.cells hS.out 10 (by omega); have s11 := VarS.cells hS.out 11 (by omega); have s12 := VarS.cells hS.out 12 (by omega); have s13 := VarS.cells hS.out 13 (by omega); have s14 := VarS.cells hS.out 14 (by omega)
              simp only [Stp.cells, Stp.arr, Tq.arr, List.getElem?_cons_succ, List.getElem?_cons_zero] at s0 s1 s2 s3 s4 s5 s6 s7 s8 s9 s10 s11 s12 s13 s14
              have D15 := Lib.hid (show ∀ w, Calls Try.prog 15 #[Stp.val ⟨some ⟨b, m * 7, none⟩, 1, pc - m, colT (f0 k), mi⟩] w (fun e w' => e = .returned (.slice (some ⟨b, m * 7, none⟩) 1 (pc - m)) ∧ Below w.heap.size w w') from fun w => sps15_c _ w)
              as_aux_lemma =>
                go_upto_region 35 with (go_at_call 15; (with_reducible refine (D15.out _).mono ?_); rintro e w8 ⟨rfl, hb⟩; replace hBi := Lib.hid (hBi.out.trans (hb.mono hBi.out.size)); replace hS := Lib.hid (own_below hS.out hb); replace hV1 := Lib.hid (own_below hV1.out hb); replace hM1 := Lib.hid (own_below hM1.out hb); replace hT1 := Lib.hid (own_below hT1.out hb); clear hb)
                clear D15 s0 s1 s2 s3 s4 s5 s6 s7 s8 s9 s10 s11 s12 s13 s14
                have s0 := VarS.cells hS.out 0 (by omega); have s1 := VarS.cells hS.out 1 (by omega); have s2 := VarS.cells hS.out 2 (by omega); have s3 := VarS.cells hS.out 3 (by omega); have s4 := VarS.cells hS.out 4 (by omega); have s5 := VarS.cells hS.out 5 (by omega); have s6 := VarS.cells hS.out 6 (by omega); have s7 := VarS.cells hS.out 7 (by omega); have s8 := VarS.cells hS.out 8 (by omega); have s9 := VarS.cells hS.out 9 (by omega); have s10 := VarS.cells hS.out 10 (by omega); have s11 := VarS.cells hS.out 11 (by omega); have s12 := VarS.cells hS.out 12 (by omega); have s13 := VarS.cells hS.out 13 (by omega); have s14 := VarS.cells hS.out 14 (by omega)
                simp only [Stp.cells, Stp.arr, Tq.arr, List.getElem?_cons_succ, List.getElem?_cons_zero] at s0 s1 s2 s3 s4 s5 s6 s7 s8 s9 s10 s11 s12 s13 s14
                have c0 := VarT.cells hV1.out 0 (by omega); have c1 := VarT.cells hV1.out 1 (by omega); have c2 := VarT.cells hV1.out 2 (by omega); have c3 := VarT.cells hV1.out 3 (by omega); have c4 := VarT.cells hV1.out 4 (by omega); have c5 := VarT.cells hV1.out 5 (by omega); have c6 := VarT.cells hV1.out 6 (by omega)
                simp only [Tq.cells, Tq.arr, List.getElem?_cons_succ, List.getElem?_cons_zero] at c0 c1 c2 c3 c4 c5 c6
                have PL : ∀ j u, (Tq.cells (posT q' 1))[j]? = some u → w8.cell? ⟨b, m * 7 + j, none⟩ = some u := fun j u hj => own_at Tq.len hT1.out (by unfold posL; rw [List.getElem?_map, List.getElem?_range hmlt]; simp [hq.out]) hj
                have p0 := PL 0 _ rfl; have p1 := PL 1 _ rfl; have p2 := PL 2 _ rfl; have p3 := PL 3 _ rfl; have p4 := PL 4 _ rfl; have p5 := PL 5 _ rfl; have p6 := PL 6 _ rfl
                simp only [Nat.add_zero] at p0
                clear PL
                have qs0 := fun d os => cell_regrown s0 d os; have qs1 := fun d os => cell_regrown s1 d os; have qs2 := fun d os => cell_regrown s2 d os; have qs3 := fun d os => cell_regrown s3 d os; have qs4 := fun d os => cell_regrown s4 d os; have qs5 := fun d os => cell_regrown s5 d os; have qs6 := fun d os => cell_regrown s6 d os; have qs7 := fun d os => cell_regrown s7 d os; have qs8 := fun d os => cell_regrown s8 d os; have qs9 := fun d os => cell_regrown s9 d os; have qs10 := fun d os => cell_regrown s10 d os; have qs11 := fun d os => cell_regrown s11 d os; have qs12 := fun d os => cell_regrown s12 d os; have qs13 := fun d os => cell_regrown s13 d os; have qs14 := fun d os => cell_regrown s14 d os
                have qc0 := fun d os => cell_regrown c0 d os; have qc1 := fun d os => cell_regrown c1 d os; have qc2 := fun d os => cell_regrown c2 d os; have qc3 := fun d os => cell_regrown c3 d os; have qc4 := fun d os => cell_regrown c4 d os; have qc5 := fun d os => cell_regrown c5 d os; have qc6 := fun d os => cell_regrown c6 d os
                have qp0 := fun d os => cell_regrown p0 d os; have qp1 := fun d os => cell_regrown p1 d os; have qp2 := fun d os => cell_regrown p2 d os; have qp3 := fun d os => cell_regrown p3 d os; have qp4 := fun d os => cell_regrown p4 d os; have qp5 := fun d os => cell_regrown p5 d os; have qp6 := fun d os => cell_regrown p6 d os
                clear s0 s1 s2 s3 s4 s5 s6 s7 s8 s9 s10 s11 s12 s13 s14 c0 c1 c2 c3 c4 c5 c6 p0 p1 p2 p3 p4 p5 p6
                have D14 := Lib.hid (show ∀ w, Calls Try.prog 14 #[Stp.val ⟨some ⟨b, m * 7, none⟩, 1, pc - m, colT (f0 k), mi⟩] w (fun e w' => e = .returned (Tq.val (colT (f0 k))) ∧ Below w.heap.size w w') from fun w => sco14_c _ w)
                have D13a := Lib.hid (show ∀ w, Calls Try.prog 13 #[Tq.val (colT (f0 k)), Tq.val (colT (f0 k))] w (fun e w' => e = .returned (.bool true) ∧ Below w.heap.size w w') from fun w => eq13_c _ w)
                have D13b := Lib.hid (show ∀ w, Calls Try.prog 13 #[Tq.val (posT q' 1), Tq.val (posT q' 1)] w (fun e w' => e = .returned (.bool true) ∧ Below w.heap.size w w') from fun w => eq13_c _ w)
                have D17 := Lib.hid (show ∀ w, Calls Try.prog 17 #[.int .i64 q', .int .u8 1] w (fun e w' => e = .returned (Tq.val (posT q' 1)) ∧ Below w.heap.size w w') from fun w => pos17_c q' (by have := hq.out; omega) 1 w)
                refine drawn_tail 18 (by kernel_rfl) (by kernel_rfl) (by kernel_rfl) (fun Q hQ => ?_)
                simp only [List.take_succ_cons, List.take_zero, List.drop_succ_cons, List.drop_zero]
                repeat (quiet_step (first | (with_reducible exact Calls.regrown_of (D14.out _)) | (with_reducible exact Calls.regrown_of (D17.out _)) | (with_reducible exact Calls.regrown_of (D13a.out _)) | (with_reducible exact Calls.regrown_of (D13b.out _))))
                refine wpQuiet_nil ?_
                clear qs0 qs1 qs2 qs3 qs4 qs5 qs6 qs7 qs8 qs9 qs10 qs11 qs12 qs13 qs14 qc0 qc1 qc2 qc3 qc4 qc5 qc6 qp0 qp1 qp2 qp3 qp4 qp5 qp6
                intro W2 hw
                have hbW : Below w8.heap.size w8 W2 := by obtain ⟨⟨d, os⟩, rfl⟩ := hw; exact below_regrown _ d os
                clear hw D14 D17 D13a D13b hT1 hV1
                replace hBi := Lib.hid (hBi.out.trans (hbW.mono hBi.out.size)); replace hS := Lib.hid (own_below hS.out hbW); replace hM1 := Lib.hid (own_below hM1.out hbW)
                clear hbW
                have d0 := VarT.cells hM1.out 0 (by omega); have d1 := VarT.cells hM1.out 1 (by omega); have d2 := VarT.cells hM1.out 2 (by omega); have d3 := VarT.cells hM1.out 3 (by omega); have d4 := VarT.cells hM1.out 4 (by omega); have d5 := VarT.cells hM1.out 5 (by omega); have d6 := VarT.cells hM1.out 6 (by omega)
                simp only [Tq.cells, Tq.arr, List.getElem?_cons_succ, List.getElem?_cons_zero] at d0 d1 d2 d3 d4 d5 d6
                have l0 := fun o => al d0 o; have l1 := fun o => al d1 o; have l2 := fun o => al d2 o; have l3 := fun o => al d3 o; have l4 := fun o => al d4 o; have l5 := fun o => al d5 o; have l6 := fun o => al d6 o
                by_cases hlast : m + 1 = kk f1 k
                · have hmi' : mi = midT (f2 k) := by rw [hmi.out, if_pos hlast]
                  clear hmi
                  subst hmi'
                  have ht : ((m : Int) == ((kk f1 k : Nat) : Int) - 1) = true := by simp; omega
                  as_aux_lemma =>
                    go_upto_region 40 with fail
                    clear d0 d1 d2 d3 d4 d5 d6 l0 l1 l2 l3 l4 l5 l6
                    refine wp_gen (fun W3 hW => ?_)
                    have hT3 : Hid (VarT W3 W2.heap.size (midT (f2 k))) := Lib.hid (by rw [hW]; exact World.ownsRow_lit _ (Tq.arr (midT (f2 k))) 1 (Nat.le_refl _) (by decide) rfl)
                    have hbW : Below W2.heap.size W2 W3 := by rw [hW]; exact ba _ _
                    clear hW
                    replace hBi := Lib.hid (hBi.out.trans (hbW.mono hBi.out.size)); replace hS := Lib.hid (own_below hS.out hbW)
                    clear hbW hM1
                    generalize W2.heap.size = PW at *
                    have s0 := VarS.cells hS.out 0 (by omega); have s1 := VarS.cells hS.out 1 (by omega); have s2 := VarS.cells hS.out 2 (by omega); have s3 := VarS.cells hS.out 3 (by omega); have s4 := VarS.cells hS.out 4 (by omega); have s5 := VarS.cells hS.out 5 (by omega); have s6 := VarS.cells hS.out 6 (by omega); have s7 := VarS.cells hS.out 7 (by omega); have s8 := VarS.cells hS.out 8 (by omega); have s9 := VarS.cells hS.out 9 (by omega); have s10 := VarS.cells hS.out 10 (by omega); have s11 := VarS.cells hS.out 11 (by omega); have s12 := VarS.cells hS.out 12 (by omega); have s13 := VarS.cells hS.out 13 (by omega); have s14 := VarS.cells hS.out 14 (by omega)
                    simp only [Stp.cells, Stp.arr, Tq.arr, List.getElem?_cons_succ, List.getElem?_cons_zero] at s0 s1 s2 s3 s4 s5 s6 s7 s8 s9 s10 s11 s12 s13 s14
                    have c0 := VarT.cells hT3.out 0 (by omega); have c1 := VarT.cells hT3.out 1 (by omega); have c2 := VarT.cells hT3.out 2 (by omega); have c3 := VarT.cells hT3.out 3 (by omega); have c4 := VarT.cells hT3.out 4 (by omega); have c5 := VarT.cells hT3.out 5 (by omega); have c6 := VarT.cells hT3.out 6 (by omega)
                    simp only [Tq.cells, Tq.arr, List.getElem?_cons_succ, List.getElem?_cons_zero] at c0 c1 c2 c3 c4 c5 c6
                    have qs0 := fun d os => cell_regrown s0 d os; have qs1 := fun d os => cell_regrown s1 d os; have qs2 := fun d os => cell_regrown s2 d os; have qs3 := fun d os => cell_regrown s3 d os; have qs4 := fun d os => cell_regrown s4 d os; have qs5 := fun d os => cell_regrown s5 d os; have qs6 := fun d os => cell_regrown s6 d os; have qs7 := fun d os => cell_regrown s7 d os; have qs8 := fun d os => cell_regrown s8 d os; have qs9 := fun d os => cell_regrown s9 d os; have qs10 := fun d os => cell_regrown s10 d os; have qs11 := fun d os => cell_regrown s11 d os; have qs12 := fun d os => cell_regrown s12 d os; have qs13 := fun d os => cell_regrown s13 d os; have qs14 := fun d os => cell_regrown s14 d os
                    have qc0 := fun d os => cell_regrown c0 d os; have qc1 := fun d os => cell_regrown c1 d os; have qc2 := fun d os => cell_regrown c2 d os; have qc3 := fun d os => cell_regrown c3 d os; have qc4 := fun d os => cell_regrown c4 d os; have qc5 := fun d os => cell_regrown c5 d os; have qc6 := fun d os => cell_regrown c6 d os
                    clear s0 s1 s2 s3 s4 s5 s6 s7 s8 s9 s10 s11 s12 s13 s14 c0 c1 c2 c3 c4 c5 c6
                    have D16 := Lib.hid (show ∀ w, Calls Try.prog 16 #[Stp.val ⟨some ⟨b, m * 7, none⟩, 1, pc - m, colT (f0 k), midT (f2 k)⟩] w (fun e w' => e = .returned (Tq.val (midT (f2 k))) ∧ Below w.heap.size w w') from fun w => smi16_c _ w)
                    have D13 := Lib.hid (show ∀ w, Calls Try.prog 13 #[Tq.val (midT (f2 k)), Tq.val (midT (f2 k))] w (fun e w' => e = .returned (.bool true) ∧ Below w.heap.size w w') from fun w => eq13_c _ w)
                    refine drawn_tail 4 (by kernel_rfl) (by kernel_rfl) (by kernel_rfl) (fun Q hQ => ?_)
                    simp only [List.take_succ_cons, List.take_zero, List.drop_succ_cons, List.drop_zero]
                    repeat (quiet_step (first | (with_reducible exact Calls.regrown_of (D16.out _)) | (with_reducible exact Calls.regrown_of (D13.out _))))
                    refine wpQuiet_nil ?_
                    clear qs0 qs1 qs2 qs3 qs4 qs5 qs6 qs7 qs8 qs9 qs10 qs11 qs12 qs13 qs14 qc0 qc1 qc2 qc3 qc4 qc5 qc6
                    intro W4 hw
                    have hbW : Below W3.heap.size W3 W4 := by obtain ⟨⟨d, os⟩, rfl⟩ := hw; exact below_regrown _ d os
                    clear hw D16 D13
                    have hBB := Lib.hid (hBi.out.trans (hbW.mono hBi.out.size))
                    clear hbW hBi hS hT3
                    go_wp2_with fail
                    exact ⟨⟨m + 1, o' + 1, q' + 1, by omega, by go_num, by go_num, by go_num, Lib.hid (by have := ho.out; omega), Lib.hid (by have := hq.out; omega), hBB.out⟩, by simp [intOf]; omega⟩
                · have hmi' : mi = tq0 := by rw [hmi.out, if_neg hlast]
                  clear hmi
                  subst hmi'
                  have ht : ((m : Int) == ((kk f1 k : Nat) : Int) - 1) = false := by simp; omega
                  as_aux_lemma =>
                    go_upto_region 40 with fail
                    clear d0 d1 d2 d3 d4 d5 d6 l0 l1 l2 l3 l4 l5 l6
                    refine wp_gen (fun W3 hW => ?_)
                    have hT3 : Hid (VarT W3 W2.heap.size (tq0)) := Lib.hid (by rw [hW]; exact World.ownsRow_lit _ (Tq.arr (tq0)) 1 (Nat.le_refl _) (by decide) rfl)
                    have hbW : Below W2.heap.size W2 W3 := by rw [hW]; exact ba _ _
                    clear hW
                    replace hBi := Lib.hid (hBi.out.trans (hbW.mono hBi.out.size)); replace hS := Lib.hid (own_below hS.out hbW)
                    clear hbW hM1
                    generalize W2.heap.size = PW at *
                    have s0 := VarS.cells hS.out 0 (by omega); have s1 := VarS.cells hS.out 1 (by omega); have s2 := VarS.cells hS.out 2 (by omega); have s3 := VarS.cells hS.out 3 (by omega); have s4 := VarS.cells hS.out 4 (by omega); have s5 := VarS.cells hS.out 5 (by omega); have s6 := VarS.cells hS.out 6 (by omega); have s7 := VarS.cells hS.out 7 (by omega); have s8 := VarS.cells hS.out 8 (by omega); have s9 := VarS.cells hS.out 9 (by omega); have s10 := VarS.cells hS.out 10 (by omega); have s11 := VarS.cells hS.out 11 (by omega); have s12 := VarS.cells hS.out 12 (by omega); have s13 := VarS.cells hS.out 13 (by omega); have s14 := VarS.cells hS.out 14 (by omega)
                    simp only [Stp.cells, Stp.arr, Tq.arr, List.getElem?_cons_succ, List.getElem?_cons_zero] at s0 s1 s2 s3 s4 s5 s6 s7 s8 s9 s10 s11 s12 s13 s14
                    have c0 := VarT.cells hT3.out 0 (by omega); have c1 := VarT.cells hT3.out 1 (by omega); have c2 := VarT.cells hT3.out 2 (by omega); have c3 := VarT.cells hT3.out 3 (by omega); have c4 := VarT.cells hT3.out 4 (by omega); have c5 := VarT.cells hT3.out 5 (by omega); have c6 := VarT.cells hT3.out 6 (by omega)
                    simp only [Tq.cells, Tq.arr, List.getElem?_cons_succ, List.getElem?_cons_zero] at c0 c1 c2 c3 c4 c5 c6
                    have qs0 := fun d os => cell_regrown s0 d os; have qs1 := fun d os => cell_regrown s1 d os; have qs2 := fun d os => cell_regrown s2 d os; have qs3 := fun d os => cell_regrown s3 d os; have qs4 := fun d os => cell_regrown s4 d os; have qs5 := fun d os => cell_regrown s5 d os; have qs6 := fun d os => cell_regrown s6 d os; have qs7 := fun d os => cell_regrown s7 d os; have qs8 := fun d os => cell_regrown s8 d os; have qs9 := fun d os => cell_regrown s9 d os; have qs10 := fun d os => cell_regrown s10 d os; have qs11 := fun d os => cell_regrown s11 d os; have qs12 := fun d os => cell_regrown s12 d os; have qs13 := fun d os => cell_regrown s13 d os; have qs14 := fun d os => cell_regrown s14 d os
                    have qc0 := fun d os => cell_regrown c0 d os; have qc1 := fun d os => cell_regrown c1 d os; have qc2 := fun d os => cell_regrown c2 d os; have qc3 := fun d os => cell_regrown c3 d os; have qc4 := fun d os => cell_regrown c4 d os; have qc5 := fun d os => cell_regrown c5 d os; have qc6 := fun d os => cell_regrown c6 d os
                    clear s0 s1 s2 s3 s4 s5 s6 s7 s8 s9 s10 s11 s12 s13 s14 c0 c1 c2 c3 c4 c5 c6
                    have D16 := Lib.hid (show ∀ w, Calls Try.prog 16 #[Stp.val ⟨some ⟨b, m * 7, none⟩, 1, pc - m, colT (f0 k), tq0⟩] w (fun e w' => e = .returned (Tq.val (tq0)) ∧ Below w.heap.size w w') from fun w => smi16_c _ w)
                    have D13 := Lib.hid (show ∀ w, Calls Try.prog 13 #[Tq.val (tq0), Tq.val (tq0)] w (fun e w' => e = .returned (.bool true) ∧ Below w.heap.size w w') from fun w => eq13_c _ w)
                    refine drawn_tail 4 (by kernel_rfl) (by kernel_rfl) (by kernel_rfl) (fun Q hQ => ?_)
                    simp only [List.take_succ_cons, List.take_zero, List.drop_succ_cons, List.drop_zero]
                    repeat (quiet_step (first | (with_reducible exact Calls.regrown_of (D16.out _)) | (with_reducible exact Calls.regrown_of (D13.out _))))
                    refine wpQuiet_nil ?_
                    clear qs0 qs1 qs2 qs3 qs4 qs5 qs6 qs7 qs8 qs9 qs10 qs11 qs12 qs13 qs14 qc0 qc1 qc2 qc3 qc4 qc5 qc6
                    intro W4 hw
                    have hbW : Below W3.heap.size W3 W4 := by obtain ⟨⟨d, os⟩, rfl⟩ := hw; exact below_regrown _ d os
                    clear hw D16 D13
                    have hBB := Lib.hid (hBi.out.trans (hbW.mono hBi.out.size))
                    clear hbW hBi hS hT3
                    go_wp2_with fail
                    exact ⟨⟨m + 1, o' + 1, q' + 1, by omega, by go_num, by go_num, by go_num, Lib.hid (by have := ho.out; omega), Lib.hid (by have := hq.out; omega), hBB.out⟩, by simp [intOf]; omega⟩
            · obtain rfl : m = kk f1 k := by omega
              go_wp2_with fail
              exact ⟨⟨k + 1, by omega, by go_num, by rw [ho.out]; simp only [Ou]; rw [Nat.max_eq_left (by omega)], by rw [hq.out]; rfl, hB.out.trans (hBi.out.mono hB.out.size)⟩, by simp [intOf]; omega⟩
    · obtain rfl : k = n := by omega
      have hq : ((Ou f1 k : Int) == (N : Int)) = true := by rw [hA.out.tot]; simp
      go_wp2_with fail
      go_ret
      exact ⟨rfl, hb3.out.trans (hB.out.mono hb3.out.size)⟩
theorem wf_u8 {n : Int} (h : (Lit.int .u8 n).wf = true) : 0 ≤ n ∧ n ≤ 255 := by
  have e1 : IntKind.u8.min = 0 := by decide
  have e2 : IntKind.u8.max = 255 := by decide
  simp [Lit.wf] at h; omega
theorem walk (w : World) (a0 : Option Addr) (n0 : Nat) (c0 : Nat) (f0 : Nat → ByteArray) (a1 : Option Addr) (n1 : Nat) (c1 : Nat) (f1 : Nat → Int) (a2 : Option Addr) (n2 : Nat) (c2 : Nat) (f2 : Nat → ByteArray) (w0 : ArgS w a0 n0 c0 f0) (w1 : ArgI .u8 w a1 n1 c1 f1) (w2 : ArgS w a2 n2 c2 f2) :
    Calls Try.prog 3 #[.slice a0 n0 c0, .slice a1 n1 c1, .slice a2 n2 c2] w fun e w' => e = .returned (.bool true) ∧ Below w.heap.size w w' := by
  by_cases h : n0 ≤ 65536 ∧ n1 ≤ 65536 ∧ n2 ≤ 65536
  · exact main a0 n0 c0 f0 a1 n1 c1 f1 a2 n2 c2 f2 w w0 w1 w2 h.1 h.2.1 h.2.2 (fun i hi => wf_u8 (w1.wf i hi))
  · have le0 := w0.le; have le1 := w1.le; have le2 := w2.le; have mx0 := w0.max; have mx1 := w1.max; have mx2 := w2.max
    have Z4 := Lib.hid (zz4_c a0 a1 a2 n0 n1 n2 c0 c1 c2 f0 f2 w (by omega) (by omega) (by omega) w0.row w2.row w0.wf w2.wf)
    unfold maxLen at mx0 mx1 mx2
    clear w0 w1 w2
    go_enter Try.func3, Try.ntmps3
    go_upto_region 5 with (go_at_call 4; (with_reducible refine Z4.out.mono ?_); rintro e w' ⟨b, rfl, rfl⟩; cases b)
    all_goals (first | (go_ret; exact ⟨rfl, Below.refl _ _⟩) | (exfalso; omega))
theorem own : ownKnob Try.prog.godebug = none := by kernel_rfl
theorem laidOut : laidOutB Try.prog = true := by kernel_rfl
set_option maxRecDepth 100000 in
theorem lifted (os : Os) (started : os.Started) (H : Type) (enc : TypeId × Value → H) :
    ReturnsInHanded {} Try.checked os 3 .any (Rows.fnSwitchToSinglePositionsExactSpec.pre6 enc Try.prog Try.f3 Rows.fnSwitchToSinglePositionsExactRow.domain false) (Rows.fnSwitchToSinglePositionsExactSpec.post enc Try.prog Try.f3 false true false false) := by
  refine returnsInHanded_of_change (C := Try.checked) own started (by kernel_rfl) Try.func3
    (ChangeSpec.witness6 (enc := enc) (C := Try.checked) false ⟨#[], #[.slice none 0 0, .slice none 0 0, .slice none 0 0], []⟩ 8 (by kernel_rfl) (by kernel_rfl) (by kernel_rfl) (by kernel_rfl)) ?_
  intro W base args ds gs before hval0 hW hcnd _
  have hval : ∀ (j : Nat) t v, Try.f3.params[j]? = some t → args[j]? = some v → Value.okWide Try.prog W .any base t v := hval0
  have hW' := hW
  obtain ⟨p, q, hA0, hV, rfl, hfz, hnd⟩ := hW
  have hA : DataW.TrodAll enc Try.prog W 0 (fun _ => true) true Try.f3.params.toList args.toList ds p := hA0
  rw [Try.params3] at hA hval
  obtain ⟨v0, vs0, d0, ds0, p0, q0, hargs, rfl, rfl, h0, r0⟩ := trodAll_cons hA
  obtain ⟨v1, vs1, d1, ds1, p1, q1, rfl, rfl, rfl, h1, r1⟩ := trodAll_cons r0
  obtain ⟨v2, vs2, d2, ds2, p2, q2, rfl, rfl, rfl, h2, r2⟩ := trodAll_cons r1
  obtain ⟨rfl, rfl, rfl⟩ := trodAll_nil r2
  obtain rfl : args = #[v0, v1, v2] := by cases args; simp_all
  obtain ⟨rfl, rfl⟩ := trodVars_none hV
  have k0 := h0
  have lt0 : ∀ x ∈ p0, x.block < W.heap.size := by obtain ⟨m, hm⟩ := k0; exact DataW.trod_lt m _ _ _ hm
  obtain ⟨a0, n0, c0, f0, rfl, w0⟩ := arg_strings Try.underlying22 Try.underlying9 (by kernel_rfl) (hval 0 22 v0 rfl rfl) h0
  have k1 := h1
  have lt1 : ∀ x ∈ p1, x.block < W.heap.size := by obtain ⟨m, hm⟩ := k1; exact DataW.trod_lt m _ _ _ hm
  obtain ⟨a1, n1, c1, f1, rfl, w1⟩ := arg_ints Try.underlying23 Try.underlying5 (by kernel_rfl) (hval 1 23 v1 rfl rfl) h1
  have k2 := h2
  have lt2 : ∀ x ∈ p2, x.block < W.heap.size := by obtain ⟨m, hm⟩ := k2; exact DataW.trod_lt m _ _ _ hm
  obtain ⟨a2, n2, c2, f2, rfl, w2⟩ := arg_strings Try.underlying22 Try.underlying9 (by kernel_rfl) (hval 2 22 v2 rfl rfl) h2
  clear hA0 hval0
  refine (walk W a0 n0 c0 f0 a1 n1 c1 f1 a2 n2 c2 f2 w0 w1 w2).mono fun e W' ⟨he, bel⟩ => ?_
  subst he
  exact ⟨_, rfl, _, _, _, [], _, [], hW', trodAll_mk1 (shut_bool Try.underlying4 _), (trodAll_cons_mk (Below.trod laidOut (by kernel_rfl) (of_decide_eq_true (by kernel_rfl)) k0 bel lt0) (trodAll_cons_mk (Below.trod laidOut (by kernel_rfl) (of_decide_eq_true (by kernel_rfl)) k1 bel lt1) (trodAll_cons_mk (Below.trod laidOut (by kernel_rfl) (of_decide_eq_true (by kernel_rfl)) k2 bel lt2) trodAll_mk0))), rfl, bel.frame _, fun h => by cases h⟩

theorem over : Rows.fnSwitchToSinglePositionsExactRow.holds Try.pinned (OpenSpec.ofChange Rows.fnSwitchToSinglePositionsExactSpec) :=
  OpenClaim.holds_of_wide 3 Try.f3 rfl rfl rfl rfl rfl rfl rfl ⟨rfl, rfl, rfl, rfl, rfl⟩ rfl rfl rfl rfl rfl (by kernel_rfl) Try.func3 (by kernel_rfl)
    (of_decide_eq_true (by kernel_rfl)) (by unfold Func.isWrapper; first | (rw [if_pos (by decide +kernel)]; kernel_rfl) | (rw [if_neg (by decide +kernel)]; exact ⟨rfl, rfl⟩))
    (fun os started H enc _ => lifted os started H enc)

theorem proved : Rows.FnSwitchToSinglePositionsExactSaid :=
  over
#print axioms proved
end Go.Proofs.Ytpjkipemalebcaa.fnSwitchToSinglePositionsExact
