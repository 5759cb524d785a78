/- switchToSinglePositions: what it answers and writes. -/
import Derived.Test.YtpjkipemalebcaaSw3
import Derived.Test.YtpjkipemalebcaaAn
set_option linter.unusedVariables false
set_option linter.unusedSimpArgs false
namespace Go.Proofs.Ytpjkipemalebcaa
open Go.RowKit
set_option maxRecDepth 100000
set_option maxHeartbeats 4000000
/-- the stop s when its first m positions are gone -/
def cur (s : Stp) (m : Nat) : Stp := ⟨if m = 0 then s.pa else s.pa.map (fun a => ⟨a.block, m * 7, none⟩), s.pn - m, s.pc - m, s.co, s.mi⟩
/-- the j-th stop that comes of s -/
def oneOf (s : Stp) (j : Nat) : Stp := if j + 1 < s.pn then ⟨(cur s j).pa, 1, s.pc - j, s.co, tq0⟩ else cur s j
def outs (s : Stp) : List Stp := (List.range (max s.pn 1)).map (oneOf s)
theorem outs_len (s : Stp) : (outs s).length = max s.pn 1 := by simp [outs]
theorem outs_last (s : Stp) (m : Nat) (hm : m < s.pn ∨ m = 0) (h : ¬ 1 < s.pn - m) : (List.range m).map (oneOf s) ++ [cur s m] = outs s := by
  have e : max s.pn 1 = m + 1 := by omega
  unfold outs
  rw [e, List.range_succ, List.map_append]
  congr 1
  simp only [List.map_cons, List.map_nil]
  unfold oneOf
  rw [if_neg (by omega)]
/-- the positions of a stop, the first j of them with 'before' -/
def mixL (q pn j : Nat) : List Tq := (List.range pn).map fun t => posT (q + t) (if t < j then 1 else 2)
theorem mix_zero (q pn : Nat) : mixL q pn 0 = posL q pn 2 := by simp [mixL, posL]
theorem mix_full (q pn : Nat) : mixL q pn pn = posL q pn 1 := by
  unfold mixL posL
  apply List.map_congr_left
  intro t ht
  rw [if_pos (by simpa using ht)]
theorem mix_set (q pn j : Nat) (h : j < pn) (hp : pn < 4) : (flat Tq.cells (mixL q pn j)).set (j * 7 + 6) (.int .u8 1) = flat Tq.cells (mixL q pn (j + 1)) := by
  match pn, j, h, hp with
  | 1, 0, _, _ => rfl
  | 2, 0, _, _ => rfl
  | 2, 1, _, _ => rfl
  | 3, 0, _, _ => rfl
  | 3, 1, _, _ => rfl
  | 3, 2, _, _ => rfl
structure SwR (w wr : World) (B0 : Nat) (K : Nat → Int) (v : Value) (n : Nat) (L : List Stp) (v' : Value) (i : Nat) : Prop where
  stops : wr.ownsRow B0 44 15 v n (flat Stp.cells L)
  toks : ∀ (j : Nat) (s : Stp), L[j]? = some s → wr.ownsRow B0 40 7 (psV s) (kk K j) (flat Tq.cells (posL (Qs K j) (kk K j) (if j < i then 1 else 2)))
  own : wr.ownsRow w.heap.size 44 15 v' ((L.take i).flatMap outs).length (flat Stp.cells ((L.take i).flatMap outs))
  bel : Below B0 w wr
  siz : w.heap.size ≤ wr.heap.size
/-- what does not turn -/
structure SwS (w : World) (B0 : Nat) (K : Nat → Int) (v : Value) (n : Nat) (L : List Stp) : Prop where
  len : L.length = n
  pn : ∀ (j : Nat) (s : Stp), L[j]? = some s → s.pn = kk K j
  sep : ∀ (j j' : Nat) (s s' : Stp) (k : Nat), L[j]? = some s → L[j']? = some s' → (psV s).ownBlock = some k → (psV s').ownBlock = some k → j = j'
  lt : ∀ (j : Nat) (s : Stp) (k : Nat), L[j]? = some s → (psV s).ownBlock = some k → B0 ≤ k ∧ k < w.heap.size
  lt' : ∀ k, v.ownBlock = some k → k < w.heap.size
theorem outs_le (L : List Stp) (K : Nat → Int) (h : ∀ (j : Nat) (s : Stp), L[j]? = some s → s.pn = kk K j) : ∀ i, ((L.take i).flatMap outs).length ≤ 3 * i := by
  intro i
  induction i with
  | zero => simp
  | succ i ih =>
    rcases Nat.lt_or_ge i L.length with q | q
    · rw [List.take_add_one, List.flatMap_append, List.length_append]
      have h1 : L[i]? = some L[i] := List.getElem?_eq_getElem q
      rw [h1]
      simp only [Option.toList_some, List.flatMap_cons, List.flatMap_nil, List.append_nil, outs_len, h i _ h1]
      have := kk_lt K i
      omega
    · rw [List.take_of_length_le (by omega)]
      rw [List.take_of_length_le q] at ih
      omega
/-- a variable that holds the stop s -/
abbrev VarS (w : World) (P : Nat) (s : Stp) : Prop := w.ownsRow P 44 15 (.slice (some ⟨P, 0, none⟩) 1 1) 1 s.cells
theorem VarS.cells {w : World} {P : Nat} {s : Stp} (h : VarS w P s) (j : Nat) (hj : j < 15) : w.cell? ⟨P, j, none⟩ = s.cells[j]? := h.cellAt j (by omega)
theorem VarS.fr {w : World} {P : Nat} {s : Stp} (h : VarS w P s) (j : Nat) : w.frozen? ⟨P, j, none⟩ = false := h.frozenAt j
theorem VarS.kp {w w' : World} {P : Nat} {s : Stp} {S : Nat → Prop} (h : VarS w P s) (hk : Kp S w w') (hs : ¬ S P) : VarS w' P s := hk.own h (fun k e => by simp [Value.ownBlock] at e; subst e; exact hs)
theorem take_flat (L : List Stp) (k : Nat) (s : Stp) (hs : L[k]? = some s) : (L.take (k + 1)).flatMap outs = (L.take k).flatMap outs ++ outs s := by
  rw [List.take_add_one, List.flatMap_append, hs]; simp
theorem SwR.next {w Wo Wi Wj w2 : World} {B0 n k m : Nat} {K : Nat → Int} {v uo u v' : Value} {L : List Stp} {s : Stp} (hS : SwS w B0 K v n L) (hI : SwR w Wo B0 K v n L uo k) (hs : L[k]? = some s) (hB0 : B0 ≤ w.heap.size)
    (KW : Kp (fun b => (psV s).ownBlock = some b) Wo Wi) (hO : Wi.ownsRow B0 40 7 (psV s) s.pn (flat Tq.cells (posL (Qs K k) s.pn 1)))
    (hK3 : Kp (fun b => b = Wo.heap.size ∨ uo.ownBlock = some b) Wi Wj) (hnew : ∀ q, u.ownBlock = some q → uo.ownBlock = some q ∨ Wi.heap.size ≤ q) (hm : m < s.pn ∨ m = 0) (hr : ¬ 1 < s.pn - m)
    (h2 : w2.ownsRow w.heap.size 44 15 v' (((L.take k).flatMap outs).length + m + 1) (flat Stp.cells ((L.take k).flatMap outs ++ (List.range m).map (oneOf s)) ++ (cur s m).cells)) (hk2 : Kp (fun b => u.ownBlock = some b) Wj w2) : SwR w w2 B0 K v n L v' (k + 1) := by
  have KA : Kp (fun b => (psV s).ownBlock = some b ∨ uo.ownBlock = some b) Wo w2 := by
    refine ((KW.wide (fun b e => .inl e)).trans' hK3 (fun b e hb => ?_)).trans' hk2 (fun b e hb => ?_)
    · rcases e with e | e
      · omega
      · exact .inr e
    · rcases hnew b e with q | q
      · exact .inr q
      · have := KW.size; omega
  have hts := hI.toks k s hs
  have hpl : ∀ q, (psV s).ownBlock = some q → B0 ≤ q ∧ q < w.heap.size := fun q => hS.lt k s q hs
  have hul : ∀ q, uo.ownBlock = some q → w.heap.size ≤ q := fun q e => (hI.own.lt q e).1
  have hpn := hS.pn k s hs
  refine ⟨KA.own hI.stops (fun q e h => ?_), fun j s' hj => ?_, ?_, hI.bel.trans (KA.below (by have := hI.siz; omega) (fun b e => ?_)), Nat.le_trans hI.siz KA.size⟩
  · rcases h with h | h
    · exact own_ne hts hI.stops (by decide) q e h
    · have := hul q h; have := hS.lt' q e; omega
  · by_cases hjk : j = k
    · subst hjk
      rw [hs] at hj; injection hj with hj; subst hj
      rw [if_pos (by omega), ← hpn]
      refine hk2.own (hK3.own hO (fun q e h => ?_)) (fun q e h => ?_)
      · have := hpl q e
        rcases h with h | h
        · have := hI.siz; omega
        · have := hul q h; omega
      · have := hpl q e
        rcases hnew q h with h | h
        · have := hul q h; omega
        · have := KW.size; have := hI.siz; omega
    · have e1 : (if j < k + 1 then (1 : Int) else 2) = if j < k then 1 else 2 := by
        by_cases h : j < k
        · rw [if_pos h, if_pos (by omega)]
        · rw [if_neg h, if_neg (by omega)]
      rw [e1]
      refine KA.own (hI.toks j s' hj) (fun q e h => ?_)
      rcases h with h | h
      · exact hjk (hS.sep j k s' s q hj hs e h)
      · have := hul q h; have := hS.lt j s' q hj e; omega
  · rw [take_flat L k s hs, ← outs_last s m hm hr, ← List.append_assoc, ← flat_add]
    simpa [Nat.add_assoc] using h2
  · rcases e with e | e
    · exact (hpl b e).1
    · have := hul b e; omega
def SwP (w : World) (B0 : Nat) (K : Nat → Int) (v : Value) (n : Nat) (L : List Stp) (e : Ending) (w' : World) : Prop := ∃ v', e = .returned v' ∧ SwR w w' B0 K v n L v' n
def L1 (w : World) (B0 : Nat) (K : Nat → Int) (v : Value) (n : Nat) (L : List Stp) (i u : Value) (wr : World) : Prop := ∃ k : Nat, k ≤ n ∧ i = .int .i64 k ∧ SwR w wr B0 K v n L u k
def L2 (W : World) (B0 q pn : Nat) (ps : Value) (i : Value) (wi : World) : Prop := ∃ m : Nat, m ≤ pn ∧ i = .int .i64 m ∧ wi.ownsRow B0 40 7 ps pn (flat Tq.cells (mixL q pn m)) ∧ Kp (fun b => ps.ownBlock = some b) W wi
def L3 (W : World) (B Pv : Nat) (s : Stp) (M : List Stp) (u0 u : Value) (wi : World) : Prop := ∃ m : Nat, (m < s.pn ∨ m = 0) ∧ VarS wi Pv (cur s m) ∧ wi.ownsRow B 44 15 u (M.length + m) (flat Stp.cells (M ++ (List.range m).map (oneOf s))) ∧ Kp (fun b => b = Pv ∨ u0.ownBlock = some b) W wi ∧ (∀ k, u.ownBlock = some k → u0.ownBlock = some k ∨ W.heap.size ≤ k)
def lenOf : Value → Nat | .slice _ n _ => n | _ => 0
theorem switch19_c (w : World) (B0 : Nat) (K : Nat → Int) (v : Value) (n : Nat) (L : List Stp) (hn : n ≤ 65536) (hS : SwS w B0 K v n L) (hR : SwR w w B0 K v n L (.slice none 0 0) 0) (hB0 : B0 ≤ w.heap.size) :
    Calls Try.prog 19 #[v] w (SwP w B0 K v n L) := by
  obtain ⟨av, cv, hv, hcv, hcv'⟩ := own_shape hR.stops
  unfold maxLen at hcv'
  subst hv
  replace hS := Lib.hid hS; replace hR := Lib.hid hR
  go_enter Try.func19, Try.ntmps19
  go_wp2_with fail
  go_loopw [9, 2] (fun i u wr => L1 w B0 K (.slice av n cv) n L i u wr) (fun i _ _ => n - (intOf i).toNat)
  case atStart => exact ⟨0, by omega, rfl, hR.out⟩
  case round =>
    obtain ⟨k, hk, rfl, hI⟩ := hrel
    obtain ⟨Wo, hWo⟩ : ∃ Wo, Wo = wr := ⟨_, rfl⟩
    subst hWo
    obtain ⟨uo, huo⟩ : ∃ uo, uo = u2 := ⟨_, rfl⟩
    subst huo
    replace hI := Lib.hid hI
    by_cases hlt : k < n
    · obtain ⟨s, hs⟩ : ∃ s, L[k]? = some s := ⟨_, List.getElem?_eq_getElem (by rw [hS.out.len]; exact hlt)⟩
      obtain ⟨gv, cv2, hv2, hgv, hgv', -, -⟩ := own_some hI.out.stops (by omega)
      simp only [Value.slice.injEq] at hv2
      obtain ⟨rfl, -, rfl⟩ := hv2
      have CL : ∀ j u, s.cells[j]? = some u → Wo.cell? ⟨gv, k * 15 + j, none⟩ = some u := fun j u hj => own_at Stp.len hI.out.stops hs hj
      have e0 := CL 0 _ rfl; have e1 := CL 1 _ rfl; have e2 := CL 2 _ rfl; have e3 := CL 3 _ rfl; have e4 := CL 4 _ rfl; have e5 := CL 5 _ rfl; have e6 := CL 6 _ rfl; have e7 := CL 7 _ rfl
      have e8 := CL 8 _ rfl; have e9 := CL 9 _ rfl; have e10 := CL 10 _ rfl; have e11 := CL 11 _ rfl; have e12 := CL 12 _ rfl; have e13 := CL 13 _ rfl; have e14 := CL 14 _ rfl
      clear CL
      simp only [Nat.add_zero] at e0
      replace hs := Lib.hid hs
      have i0 : (0 : Int) ≤ k := by omega
      have i1 : (k : Int) < n := by omega
      go_upto_region 4 with fail
      clear e0 e1 e2 e3 e4 e5 e6 e7 e8 e9 e10 e11 e12 e13 e14
      refine wp_gen (fun W hW => ?_)
      have hV : Hid (VarS W Wo.heap.size s) := Lib.hid (by rw [hW]; exact World.ownsRow_lit _ s.arr 1 (Nat.le_refl _) (by decide) rfl)
      have hB : Hid (Below Wo.heap.size Wo W) := Lib.hid (by rw [hW]; exact ba _ _)
      have hWz : Wo.heap.size < W.heap.size := by rw [hW]; simp
      clear hW
      -- what the round starts from
      have hpn := Lib.hid (hS.out.pn k s hs.out)
      have hp4 : s.pn < 4 := by rw [hpn.out]; exact kk_lt K k
      have hT : Hid (W.ownsRow B0 40 7 (psV s) s.pn (flat Tq.cells (mixL (Qs K k) s.pn 0))) := Lib.hid (by
        have := hI.out.toks k s hs.out
        rw [if_neg (by omega), ← hpn.out, ← mix_zero] at this
        exact (Kp.of (S := fun _ => False) hB.out).own this (fun _ _ q => q))
      have hlb := Lib.hid (hS.out.lt k s · hs.out)
      have hsz := hI.out.siz
      obtain ⟨ua, uc, hu, -, -⟩ := own_shape hI.out.own
      generalize hPv : Wo.heap.size = Pv at *
      replace hPv := Lib.hid hPv
      have e0 : W.cell? ⟨Pv, 0, none⟩ = some (.slice s.pa s.pn s.pc) := hV.out.cells 0 (by omega)
      go_wp2_with fail
      clear e0
      go_loopw [16] (fun i wi => L2 W B0 (Qs K k) s.pn (psV s) i wi) (fun i _ => s.pn - (intOf i).toNat)
      case atStart => exact ⟨0, by omega, rfl, hT.out, Kp.refl _⟩
      case round =>
        obtain ⟨m, hm, rfl, hO, hK⟩ := hrel
        obtain ⟨Wi, hWi⟩ : ∃ Wi, Wi = wr := ⟨_, rfl⟩
        subst hWi
        clear hT
        have hVi : Hid (VarS Wi Pv s) := Lib.hid (hV.out.kp hK (fun e => by have := (hlb.out Pv e).2; have := hPv.out; omega))
        replace hO := Lib.hid hO; replace hK := Lib.hid hK
        have e0 : Wi.cell? ⟨Pv, 0, none⟩ = some (.slice s.pa s.pn s.pc) := hVi.out.cells 0 (by omega)
        by_cases hmlt : m < s.pn
        · obtain ⟨b, c2, hb2, -, -, -, -⟩ := own_some hO.out (by omega)
          simp only [Value.slice.injEq] at hb2
          obtain ⟨hpa, -, hpc⟩ := hb2
          subst hpc
          rw [hpa] at e0
          replace hpa := Lib.hid hpa
          have hO' : Hid (Wi.ownsRow B0 40 7 (.slice (some ⟨b, 0, none⟩) s.pn s.pc) s.pn (flat Tq.cells (mixL (Qs K k) s.pn m))) := Lib.hid (by have := hO.out; unfold psV at this; rw [hpa.out] at this; exact this)
          have hc6 : ∃ u, Wi.cell? ⟨b, m * 7 + 6, none⟩ = some u := ⟨_, by
            rw [hO'.out.cellAt _ (by omega)]
            exact List.getElem?_eq_getElem (by rw [hO'.out.1]; omega)⟩
          have hf6 := hO'.out.frozenAt (m * 7 + 6)
          obtain ⟨u6, hc6⟩ := hc6
          have hst := hO'.out.stored (m * 7 + 6) (.int .u8 1)
          rw [mix_set _ _ _ hmlt hp4] at hst
          replace hst := Lib.hid hst
          have j0 : (0 : Int) ≤ m := by omega
          have j1 : (m : Int) < s.pn := by omega
          have j2 : s.pn ≤ 4 := by omega
          go_wp2_with fail
          have hps : (psV s).ownBlock = some b := by unfold psV; rw [hpa.out]; rfl
          exact ⟨⟨m + 1, by omega, by go_num, by unfold psV; rw [hpa.out]; exact hst.out.1, hK.out.trans ((Kp.grown hst.out.2).wide (fun q e => by rw [hps]; exact e))⟩, by simp [intOf]; omega⟩
        · have hmk : m = s.pn := by omega
          subst hmk
          clear hmlt hm e0
          have hO1 := hO.out
          rw [mix_full] at hO1
          replace hO1 := Lib.hid hO1
          clear hO
          have KW : Kp (fun b => (psV s).ownBlock = some b) Wo Wi := (Kp.of (by rw [hPv.out]; exact hB.out)).trans hK.out
          have hI1 : Hid (L3 Wi w.heap.size Pv s ((L.take k).flatMap outs) uo uo Wi) := Lib.hid (by
            refine ⟨0, by omega, ?_, ?_, Kp.refl _, fun k h => .inl h⟩
            · have : cur s 0 = s := by simp [cur]
              rw [this]; exact hVi.out
            · simp only [List.range_zero, List.map_nil, List.append_nil, Nat.add_zero]
              exact KW.own hI.out.own (fun q e e' => by have := (hI.out.own.lt q e).1; have := (hlb.out q e').2; omega))
          have hu2 := Lib.hid (fun q (e : uo.ownBlock = some q) => by have := (hI.out.own.lt q e).2; rw [hPv.out] at this; exact this)
          have hM : ((L.take k).flatMap outs).length ≤ 3 * k := outs_le L K hS.out.pn k
          have hWi : Pv < Wi.heap.size := Nat.lt_of_lt_of_le hWz hK.out.size
          replace KW := Lib.hid KW
          clear hVi hK hB hV
          go_wp2_with fail
          go_loopw [2] (fun u wi => L3 Wi w.heap.size Pv s ((L.take k).flatMap outs) uo u wi) (fun u _ => 300000 - lenOf u)
          case atStart => exact hI1.out
          case round =>
            obtain ⟨m, hm, hVc, hOu, hK3, hnew⟩ := hrel
            obtain ⟨Wj, hWj⟩ : ∃ Wj, Wj = wr := ⟨_, rfl⟩
            subst hWj
            clear hI1
            obtain ⟨r, hr⟩ : ∃ r, s.pn - m = r := ⟨_, rfl⟩
            obtain ⟨c, hc⟩ : ∃ c, s.pc - m = c := ⟨_, rfl⟩
            replace hVc := Lib.hid hVc; replace hOu := Lib.hid hOu; replace hK3 := Lib.hid hK3; replace hnew := Lib.hid hnew
            have hWjz : Pv < Wj.heap.size := Nat.lt_of_lt_of_le hWi hK3.out.size
            have e1 := hVc.out.cells 1 (by omega); have e2 := hVc.out.cells 2 (by omega); have e3 := hVc.out.cells 3 (by omega); have e4 := hVc.out.cells 4 (by omega); have e5 := hVc.out.cells 5 (by omega); have e6 := hVc.out.cells 6 (by omega); have e7 := hVc.out.cells 7 (by omega)
            have e8 := hVc.out.cells 8 (by omega); have e9 := hVc.out.cells 9 (by omega); have e10 := hVc.out.cells 10 (by omega); have e11 := hVc.out.cells 11 (by omega); have e12 := hVc.out.cells 12 (by omega); have e13 := hVc.out.cells 13 (by omega); have e14 := hVc.out.cells 14 (by omega)
            simp only [Stp.cells, cur, Stp.arr, Tq.arr, List.getElem?_cons_succ, List.getElem?_cons_zero] at e1 e2 e3 e4 e5 e6 e7 e8 e9 e10 e11 e12 e13 e14
            by_cases h1 : 1 < r
            · obtain ⟨b, c2, hb2, -, -, hle, -⟩ := own_some hO1.out (by omega)
              simp only [Value.slice.injEq] at hb2
              obtain ⟨hpa, -, hpc⟩ := hb2
              subst hpc
              have hpm : (cur s m).pa = some ⟨b, m * 7, none⟩ := by
                unfold cur
                split
                · rename_i h; subst h; simpa using hpa
                · rw [hpa]; rfl
              have e0 : Wj.cell? ⟨Pv, 0, none⟩ = some (.slice (some ⟨b, m * 7, none⟩) r c) := by
                rw [hVc.out.cells 0 (by omega), ← hpm, ← hr, ← hc]; rfl
              have hcr : r ≤ c := by omega
              clear hle
              replace hr := Lib.hid hr; replace hc := Lib.hid hc
              replace hpm := Lib.hid hpm
              replace hpa := Lib.hid hpa
              have i2 : (1 : Int) < r := by omega
              go_upto_region 13 with fail
              clear e0 e1 e2 e3 e4 e5 e6 e7 e8 e9 e10 e11 e12 e13 e14
              have hone : oneOf s m = ⟨some ⟨b, m * 7, none⟩, 1, c, s.co, tq0⟩ := by
                unfold oneOf; rw [if_pos (by have := hr.out; omega), hpm.out, hc.out]
              refine wp_gen (fun W3 hW => ?_)
              have hV3 : Hid (VarS W3 Wj.heap.size ⟨some ⟨b, m * 7, none⟩, 1, c, s.co, tq0⟩) := Lib.hid (by rw [hW]; exact World.ownsRow_lit _ (Stp.arr ⟨some ⟨b, m * 7, none⟩, 1, c, s.co, tq0⟩) 1 (Nat.le_refl _) (by decide) rfl)
              have hB3 : Hid (Below Wj.heap.size Wj W3) := Lib.hid (by rw [hW]; exact ba _ _)
              clear hW
              replace hone := Lib.hid hone
              have hV4 : Hid (VarS W3 Pv (cur s m)) := Lib.hid (hVc.out.kp (Kp.of (S := fun _ => False) hB3.out) (fun q => q))
              have hO3 : Hid (W3.ownsRow w.heap.size 44 15 u2 ((List.flatMap outs (List.take k L)).length + m) (flat Stp.cells (List.flatMap outs (List.take k L) ++ (List.range m).map (oneOf s)))) := Lib.hid ((Kp.of (S := fun _ => False) hB3.out).own hOu.out (fun _ _ q => q))
              have hPu : Hid (¬ u2.ownBlock = some Pv) := Lib.hid (fun e => by
                rcases hnew.out Pv e with q | q
                · have := hu2.out Pv q; omega
                · omega)
              have hw3 : w.heap.size ≤ W3.heap.size := by have := hB3.out.size; omega
              have f0 := hV3.out.cells 0 (by omega); have f1 := hV3.out.cells 1 (by omega); have f2 := hV3.out.cells 2 (by omega); have f3 := hV3.out.cells 3 (by omega); have f4 := hV3.out.cells 4 (by omega); have f5 := hV3.out.cells 5 (by omega); have f6 := hV3.out.cells 6 (by omega); have f7 := hV3.out.cells 7 (by omega)
              have f8 := hV3.out.cells 8 (by omega); have f9 := hV3.out.cells 9 (by omega); have f10 := hV3.out.cells 10 (by omega); have f11 := hV3.out.cells 11 (by omega); have f12 := hV3.out.cells 12 (by omega); have f13 := hV3.out.cells 13 (by omega); have f14 := hV3.out.cells 14 (by omega)
              simp only [Stp.cells, Stp.arr, Tq.arr, List.getElem?_cons_succ, List.getElem?_cons_zero] at f0 f1 f2 f3 f4 f5 f6 f7 f8 f9 f10 f11 f12 f13 f14
              have hL0 : (L.take k |>.flatMap outs).length + m ≤ 200000 := by have := hr.out; omega
              replace hM := Lib.hid hM
              go_upto_region 14 with (at_builtin; go_loud (refine app1n (w := W3) (.tmp 36) (.tmp 38) 29 44 w.heap.size 15 104 stZ (Stp.arr ⟨some ⟨b, m * 7, none⟩, 1, c, s.co, tq0⟩) _ _ _ rfl rfl rfl rfl rfl Try.underlying29 info44 rfl (by omega) hO3.out rfl (Stp.one ⟨some ⟨b, m * 7, none⟩, 1, c, s.co, tq0⟩) (by omega) (by omega) hw3 ?_); intro v' w2 h2 hk2 hn2; replace h2 := Lib.hid h2; replace hk2 := Lib.hid hk2; replace hn2 := Lib.hid hn2)
              clear f0 f1 f2 f3 f4 f5 f6 f7 f8 f9 f10 f11 f12 f13 f14
              have hV5 : Hid (VarS w2 Pv (cur s m)) := Lib.hid (hV4.out.kp hk2.out (fun e => hPu.out e))
              have hf := hV5.out.fr 0
              have e0 : w2.cell? ⟨Pv, 0, none⟩ = some (.slice (some ⟨b, m * 7, none⟩) r c) := by
                rw [hV5.out.cells 0 (by omega), ← hpm.out, ← hr.out, ← hc.out]; rfl
              have hst := hV5.out.stored 0 (.slice (some ⟨b, m * 7 + 7, none⟩) (r - 1) (c - 1))
              replace hst := Lib.hid hst
              have i3 : (1 : Int) < c := by omega
              have i4 : (r : Int) ≤ c := by omega
              go_wp2_with fail
              have hcur : ((cur s m).cells.set 0 (.slice (some ⟨b, m * 7 + 7, none⟩) (r - 1) (c - 1))) = (cur s (m + 1)).cells := by
                have e1 : s.pn - (m + 1) = r - 1 := by have := hr.out; omega
                have e2 : s.pc - (m + 1) = c - 1 := by have := hc.out; omega
                unfold cur
                rw [if_neg (Nat.succ_ne_zero m), hpa.out, e1, e2]
                simp [Stp.cells, Nat.add_mul]
              rw [hcur] at hst
              refine ⟨⟨m + 1, .inl (by have := hr.out; omega), hst.out.1, ?_, ((hK3.out.trans (Kp.of hB3.out)).trans' hk2.out (fun b e hb => (hnew.out b e).elim .inr (fun q => by omega))).set _ _ (.inl (.inl rfl)), fun q e => ?_⟩, ?_⟩
              · rw [List.range_succ, List.map_append, ← List.append_assoc, List.map_cons, List.map_nil, ← flat_add, hone.out]
                refine ownsRow_setCell_other h2.out (fun e => ?_) _
                rcases hn2.out Pv e with q | q
                · exact hPu.out q
                · have := hB3.out.size; omega
              · rcases hn2.out q e with q | q
                · exact hnew.out _ q
                · right; have := hB3.out.size; have := hK3.out.size; omega
              · have l1 : lenOf v' = ((L.take k).flatMap outs).length + m + 1 := by obtain ⟨a, c, e, -⟩ := own_shape h2.out; rw [e]; rfl
                have l2 : lenOf u2 = ((L.take k).flatMap outs).length + m := by obtain ⟨a, c, e, -⟩ := own_shape hOu.out; rw [e]; rfl
                omega
            · generalize hq : (cur s m).pa = q at *
              have e0 : Wj.cell? ⟨Pv, 0, none⟩ = some (.slice q r c) := by
                rw [hVc.out.cells 0 (by omega), ← hq, ← hr, ← hc]; rfl
              have hcu : cur s m = ⟨q, r, c, s.co, s.mi⟩ := by rw [← hq, ← hr, ← hc]; rfl
              replace hr := Lib.hid hr; replace hc := Lib.hid hc; replace hq := Lib.hid hq; replace hcu := Lib.hid hcu
              have i2 : ¬ (1 : Int) < r := by omega
              have hL0 : (L.take k |>.flatMap outs).length + m ≤ 200000 := by omega
              have hw3 : w.heap.size ≤ Wj.heap.size := by omega
              replace hM := Lib.hid hM
              go_wp2_with (at_builtin; go_loud (refine app1n (w := Wj) (.tmp 44) (.tmp 46) 29 44 w.heap.size 15 104 stZ (Stp.arr ⟨q, r, c, s.co, s.mi⟩) _ _ _ rfl rfl rfl rfl rfl Try.underlying29 info44 rfl (by omega) hOu.out rfl (Stp.one ⟨q, r, c, s.co, s.mi⟩) (by omega) (by omega) hw3 ?_); intro v' w2 h2 hk2 hn2; replace h2 := Lib.hid h2; replace hk2 := Lib.hid hk2; replace hn2 := Lib.hid hn2)
              have hK3' := hK3.out
              have hrr : ¬ 1 < s.pn - m := by have := hr.out; omega
              have h2' := h2.out
              rw [show (Stp.arr ⟨q, r, c, s.co, s.mi⟩).toList = (cur s m).cells by rw [hcu.out]; rfl] at h2'
              rw [← hPv.out] at hK3'
              have NX := SwR.next hS.out hI.out hs.out hB0 KW.out hO1.out hK3' hnew.out hm hrr h2' hk2.out
              exact ⟨⟨k + 1, by omega, by go_num, NX⟩, by simp [intOf]; omega⟩
    · obtain rfl : k = n := by omega
      go_wp2_with fail
      go_ret
      exact ⟨_, rfl, hI.out⟩
end Go.Proofs.Ytpjkipemalebcaa
