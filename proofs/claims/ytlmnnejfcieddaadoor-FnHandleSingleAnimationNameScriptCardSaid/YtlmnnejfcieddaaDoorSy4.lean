/- symbolForName as a function of the table; handleSingleContainerName. -/
import Derived.Test.YtlmnnejfcieddaaDoorSy3
import Derived.Test.YtlmnnejfcieddaaDoorED
set_option linter.unusedVariables false
set_option linter.unusedSimpArgs false
namespace Go.Proofs.YtlmnnejfcieddaaDoor
open Go.RowKit
def idxS (l : List SyR) (nm : ByteArray) : Option Nat := l.findIdx? (fun r => decide (r.name = nm))
def numS (l : List SyR) (nm : ByteArray) : Nat := (idxS l nm).getD l.length
def addS (l : List SyR) (nm : ByteArray) : List SyR := match idxS l nm with
  | some i => l.set i ⟨nm, ((l[i]?).map SyR.uses).getD 0 + 1⟩
  | none => l ++ [⟨nm, 1⟩]
structure FitS (l : List SyR) (n : Nat) : Prop where
  len : l.length ≤ n
  uses : ∀ r ∈ l, 0 ≤ r.uses ∧ r.uses ≤ n
theorem FitS.nil (n : Nat) : FitS [] n := ⟨Nat.zero_le _, fun r h => by simp at h⟩
theorem idxS_some {l : List SyR} {nm : ByteArray} {i : Nat} (h : idxS l nm = some i) : ∃ u, l[i]? = some ⟨nm, u⟩ := by
  unfold idxS at h
  rw [List.findIdx?_eq_some_iff_getElem] at h
  obtain ⟨hi, hp, -⟩ := h
  refine ⟨l[i].uses, ?_⟩
  rw [List.getElem?_eq_getElem hi]
  have e : l[i].name = nm := by simpa using hp
  congr 1
  rw [← e]
theorem idxS_none {l : List SyR} {nm : ByteArray} (h : idxS l nm = none) : ∀ r ∈ l, r.name ≠ nm := by
  unfold idxS at h
  rw [List.findIdx?_eq_none_iff] at h
  intro r hr e
  have := h r hr
  simp [e] at this
theorem FitS.add {l : List SyR} {n : Nat} (h : FitS l n) (nm : ByteArray) : FitS (addS l nm) (n + 1) := by
  unfold addS
  cases e : idxS l nm with
  | none =>
    refine ⟨by simp; exact h.len, fun r hr => ?_⟩
    simp at hr
    rcases hr with hr | rfl
    · have := h.uses r hr; omega
    · simp; omega
  | some i =>
    obtain ⟨u, hu⟩ := idxS_some e
    simp only [hu, Option.map_some, Option.getD_some]
    have h0 := h.uses _ (List.mem_of_getElem? hu)
    simp only at h0
    refine ⟨by have := h.len; simp; omega, fun r hr => ?_⟩
    rcases List.mem_or_eq_of_mem_set hr with hr | rfl
    · have := h.uses r hr; omega
    · simp; omega
theorem sym25_c (nm : ByteArray) (hn : nm.size ≤ maxLen) (w : World) (S : Nat → Prop) (G B : Nat) (mk : Bool) (l : List SyR) (n : Nat) (hf : FitS l n) (hl : n < 1048576) (h : PS w S G B mk l) (hI : Inv w) (hG : 2 ≤ G) :
    Calls Tryd.prog 27 #[.pointer (some ⟨B, 0, none⟩), .agg #[.int .i32 0], .string nm] w (SymB w S G B mk (numS l nm) (addS l nm)) := by
  obtain ⟨m1, m2, v1, v2, D, h⟩ := h
  have hlen := hf.len
  unfold numS addS
  cases e : idxS l nm with
  | none =>
    have hno := idxS_none e
    cases mk
    · exact sym25_new_false nm hn w S G B m1 m2 v1 v2 l D (by omega) hno h hI hG
    · exact sym25_new_true nm hn w S G B m1 m2 v1 v2 l D (by omega) hno h hI hG
  | some i =>
    obtain ⟨u, hu⟩ := idxS_some e
    simp only [hu, Option.map_some, Option.getD_some]
    have h0 := hf.uses _ (List.mem_of_getElem? hu)
    simp only at h0
    cases mk
    · exact sym25_old_false nm hn w S G B m1 m2 v1 v2 l D (by omega) i u hu (by omega) (by omega) h hI hG
    · exact sym25_old_true nm hn w S G B m1 m2 v1 v2 l D (by omega) i u hu (by omega) (by omega) h hI hG
/-! handleSingleContainerName -/
/-- what strings.ToLower answers from w on -/
def Low (low : ByteArray → ByteArray) (w : World) : Prop := ∀ s w', s.size ≤ 1048576 → Below w.heap.size w w' → Calls Tryd.prog 29 #[.string s] w' (fun e w2 => e = .returned (.string (low s)) ∧ Below w'.heap.size w' w2)
def isNone (L : ByteArray) : Bool := L.toList == [110, 111, 110, 101]
/-- the variable cssWideAndReservedKeywords answers by 'res' -/
def Res (res : ByteArray → Bool) (w : World) : Prop := ∃ bm es clock, w.cell? ⟨0, 0, none⟩ = some (.map (some bm)) ∧ w.heap[bm]? = some (.map es clock) ∧
  ∀ (s : ByteArray) (W : World), s.size ≤ maxLen → W.heap[bm]? = some (.map es clock) → (Instr.lookup 113 (.map (some bm)) (.string s) false).run Tryd.prog W = .ok (.bool (res s)) W
theorem Res.look {res : ByteArray → Bool} {w w' : World} (h : Res res w) (hb : Below w.heap.size w w') : ∃ bm, w'.cell? ⟨0, 0, none⟩ = some (.map (some bm)) ∧ ∀ (s : ByteArray) (W : World), s.size ≤ maxLen → Below w.heap.size w W → (Instr.lookup 113 (.map (some bm)) (.string s) false).run Tryd.prog W = .ok (.bool (res s)) W := by
  obtain ⟨bm, es, clock, h1, h2, h3⟩ := h
  exact ⟨bm, ac hb h1, fun s W hs hW => h3 s W hs (by rw [hW.block _ (Array.getElem?_eq_some_iff.1 h2).1]; exact h2)⟩
def keeps (low : ByteArray → ByteArray) (res : ByteArray → Bool) (s : ByteArray) : Bool := isNone (low s) || res (low s)
/-- what a token becomes -/
def stay (low : ByteArray → ByteArray) (res : ByteArray → Bool) (mk : Bool) (kd : Int) (s : ByteArray) : Bool := (decide (kd = 29) || (decide (kd = 36) && !mk)) && keeps low res s
/-- what a token becomes -/
def hsT (low : ByteArray → ByteArray) (res : ByteArray → Bool) (mk : Bool) (l : List SyR) (t : Tk) : Tk := if stay low res mk t.kd t.tx = true then t else { t with kd := 39, pl := numS l t.tx }
def hsL (low : ByteArray → ByteArray) (res : ByteArray → Bool) (mk : Bool) (l : List SyR) (t : Tk) : List SyR := if stay low res mk t.kd t.tx = true then l else addS l t.tx
structure HsB (w : World) (S : Nat → Prop) (G B : Nat) (mk : Bool) (T o : Nat) (t' : Tk) (l' : List SyR) (w' : World) : Prop where
  kp : Kp (fun b => S b ∨ b = T) w w'
  ps : ∃ S' : Nat → Prop, PS w' S' G B mk l' ∧ ∀ k, S' k → S k ∨ w.heap.size ≤ k
  tok : TAt w' T o t'
  far : ∀ j, j < o ∨ o + 7 ≤ j → w'.cell? ⟨T, j, none⟩ = w.cell? ⟨T, j, none⟩
  froz : ∀ j, w'.frozen? ⟨T, j, none⟩ = w.frozen? ⟨T, j, none⟩
set_option maxRecDepth 100000 in
theorem inv26_c (low : ByteArray → ByteArray) (res : ByteArray → Bool) (w0 w : World) (hL : Low low w0) (hR : Res res w0) (hb : Below w0.heap.size w0 w) (s : ByteArray) (hs : s.size ≤ 1048576) (hls : (low s).size ≤ maxLen) :
    Calls Tryd.prog 26 #[.string s] w (fun e w' => e = .returned (.bool (keeps low res s)) ∧ Below w.heap.size w w') := by
  obtain ⟨bm, hc0, hlook⟩ := hR.look hb
  have hLow := Lib.hid (hL s w hs hb)
  have hLook := Lib.hid hlook
  replace hb := Lib.hid hb
  clear hlook hL hR
  go_enter Tryd.func26, Tryd.ntmps26
  go_upto_region 2 with (go_at_call 29; (with_reducible refine hLow.out.mono ?_); rintro e w1 ⟨rfl, hb1⟩; replace hb1 := Lib.hid hb1)
  clear hLow
  have hc1 := ac hb1.out hc0
  have hlk := hLook.out (low s) w1 hls (hb.out.trans (hb1.out.mono hb.out.size))
  have hh : ((low s).toList == [110, 111, 110, 101]) = isNone (low s) := rfl
  have ek : Hid (keeps low res s = (isNone (low s) || res (low s))) := Lib.hid rfl
  cases hN : isNone (low s) with
  | true =>
    rw [hN] at hh ek
    clear hlk hc1
    go_wp2
    go_ret
    exact ⟨by rw [ek.out]; rfl, hb1.out⟩
  | false =>
    rw [hN] at hh ek
    go_wp2
    go_ret
    exact ⟨by rw [ek.out]; rfl, hb1.out⟩
set_option maxRecDepth 100000 in
set_option maxHeartbeats 4000000 in
theorem hs20_c (low : ByteArray → ByteArray) (res : ByteArray → Bool) (w0 w : World) (hL : Low low w0) (hR : Res res w0) (hI : Inv w0) (hb : Below w0.heap.size w0 w) (S : Nat → Prop) (B : Nat) (mk : Bool) (l : List SyR) (n : Nat) (hf : FitS l n) (hl : n < 1048576)
    (hp : PS w S w0.heap.size B mk l) (hG : 2 ≤ w0.heap.size) (T o : Nat) (t : Tk) (ht : TAt w T o t) (hlo : t.lo = 0) (hts : t.tx.size ≤ 1048576) (hls : (low t.tx).size ≤ maxLen) (hTS : ¬ S T) (hTw : w0.heap.size ≤ T) (hfz : ∀ j, j < 7 → w.frozen? ⟨T, o + j, none⟩ = false) :
    Calls Tryd.prog 20 #[.pointer (some ⟨B, 0, none⟩), .pointer (some ⟨T, o, none⟩)] w (fun e w' => e = .returned (.tuple #[]) ∧ HsB w S w0.heap.size B mk T o (hsT low res mk l t) (hsL low res mk l t) w') := by
  have hT := Lib.hid ht
  have hLow := Lib.hid (inv26_c low res w0 w hL hR hb t.tx hts hls)
  have hPS := Lib.hid hp
  have hfr := Lib.hid hfz
  have hI' := Lib.hid hI
  have hlt := block_lt_of_cell ht.c0
  replace hb := Lib.hid hb
  obtain ⟨m1, m2, v1, v2, D, hPR⟩ := hp
  have c54 := hPR.c54
  have c1 := hT.out.c1
  have c5 := hT.out.c5
  clear hfz hI ht hL hR hls hPR
  by_cases hst : stay low res mk t.kd t.tx = true
  · have kept : ∀ w1, Below w.heap.size w w1 → HsB w S w0.heap.size B mk T o (hsT low res mk l t) (hsL low res mk l t) w1 := fun w1 hb1 => by
      unfold hsT hsL
      rw [if_pos hst, if_pos hst]
      exact ⟨Kp.of hb1, ⟨S, hPS.out.below hb1, fun k q => .inl q⟩, hT.out.after hb1, fun j _ => hb1.cell hlt, fun j => hb1.frozen hlt⟩
    replace kept := Lib.hid kept
    have hst' := hst
    unfold stay at hst'
    simp only [Bool.and_eq_true, Bool.or_eq_true, decide_eq_true_eq, Bool.not_eq_true'] at hst'
    obtain ⟨ha, hk⟩ := hst'
    rw [hk] at hLow
    clear hst
    by_cases h29 : t.kd = 29
    · rw [h29] at c5
      clear ha
      go_enter Tryd.func20, Tryd.ntmps20
      go_wp2_with (go_at_call 26; (with_reducible refine hLow.out.mono ?_); rintro e w1 ⟨rfl, hb1⟩; replace hb1 := Lib.hid hb1)
      exact bodyPost_ret (v := .tuple #[]) (by simp [results, Tryd.results20, go_sem]) rfl ⟨rfl, kept.out _ hb1.out⟩
    · obtain ⟨h36, rfl⟩ := ha.resolve_left h29
      rw [h36] at c5
      clear h29
      go_enter Tryd.func20, Tryd.ntmps20
      go_wp2_with (go_at_call 26; (with_reducible refine hLow.out.mono ?_); rintro e w1 ⟨rfl, hb1⟩; replace hb1 := Lib.hid hb1)
      exact bodyPost_ret (v := .tuple #[]) (by simp [results, Tryd.results20, go_sem]) rfl ⟨rfl, kept.out _ hb1.out⟩
  · have et : Hid (hsT low res mk l t = { t with kd := 39, pl := numS l t.tx } ∧ hsL low res mk l t = addS l t.tx) := Lib.hid ⟨by unfold hsT; rw [if_neg hst], by unfold hsL; rw [if_neg hst]⟩
    have hst' : stay low res mk t.kd t.tx = false := by simpa using hst
    clear hst
    unfold stay at hst'
    go_enter Tryd.func20, Tryd.ntmps20
    by_cases h29 : t.kd = 29
    · rw [h29] at c5
      have hk : keeps low res t.tx = false := by simpa [h29] using hst'
      rw [hk] at hLow
      clear hst' h29
      go_upto_region 1 with (go_at_call 26; (with_reducible refine hLow.out.mono ?_); rintro e w1 ⟨rfl, hb1⟩; replace hb1 := Lib.hid hb1)
      clear c1 c5 c54 hLow
      have z1 := hb1.out.size
      replace hT := Lib.hid (hT.out.after hb1.out)
      have c5 := hT.out.c5
      have fa : Hid (∀ j, w1.frozen? ⟨T, j, none⟩ = w.frozen? ⟨T, j, none⟩) := Lib.hid (fun j => hb1.out.frozen hlt)
      have fc : Hid (∀ j, w1.cell? ⟨T, j, none⟩ = w.cell? ⟨T, j, none⟩) := Lib.hid (fun j => hb1.out.cell hlt)
      have f5 : w1.frozen? ⟨T, o + 5, none⟩ = false := by rw [fa.out]; exact hfr.out 5 (by omega)
      go_upto_region 2 with fail
      refine wp_gen (fun W2 hW => ?_)
      have hk2 : Kp (fun b => b = T) w1 W2 := by rw [hW]; exact (Kp.refl w1).set ⟨T, o + 5, none⟩ _ (.inl rfl)
      have hT2 : Hid (TAt W2 T o { t with kd := 39 }) := Lib.hid (by
        have ne : ∀ {i j : Nat}, i ≠ j → (⟨T, i, none⟩ : Addr) ≠ ⟨T, j, none⟩ := fun h e => h (by injection e)
        rw [hW]
        exact ⟨by rw [co (ne (by omega))]; exact hT.out.c0, by rw [co (ne (by omega))]; exact hT.out.c1, by rw [co (ne (by omega))]; exact hT.out.c2, by rw [co (ne (by omega))]; exact hT.out.c3, by rw [co (ne (by omega))]; exact hT.out.c4, cs hT.out.c5, by rw [co (ne (by omega))]; exact hT.out.c6⟩)
      have fa2 : Hid (∀ j, W2.frozen? ⟨T, j, none⟩ = w.frozen? ⟨T, j, none⟩) := Lib.hid (fun j => by rw [hW, fz]; exact fa.out j)
      have fc2 : Hid (∀ j, j < o ∨ o + 7 ≤ j → W2.cell? ⟨T, j, none⟩ = w.cell? ⟨T, j, none⟩) := Lib.hid (fun j hj => by rw [hW, co (by intro e; injection e; omega)]; exact fc.out j)
      clear hW c5 f5 fa fc hT
      have hP2 : Hid (PS W2 S w0.heap.size B mk l) := Lib.hid ((hPS.out.below hb1.out).kept hk2 (fun k e h => hTS (e ▸ h)))
      have hb2 : Hid (Below w0.heap.size w0 W2) := Lib.hid ((hb.out.trans (hb1.out.mono hb.out.size)).trans (hk2.below (Nat.le_trans hb.out.size z1) (fun b e => by omega)))
      have hK2 : Hid (Kp (fun b => S b ∨ b = T) w W2) := Lib.hid ((Kp.of hb1.out).trans (hk2.wide (fun b e => .inr e)))
      clear hb1 hk2 hPS
      have c1 := hT2.out.c1; have c2 := hT2.out.c2
      simp only [hlo] at c2
      have y1 := fun d os => cell_regrown c1 d os
      have y2 := fun d os => cell_regrown c2 d os
      refine drawn_tail_m 10 0 (by kernel_rfl) (by kernel_rfl) (by kernel_rfl) (by kernel_rfl) (fun Q hQ => ?_)
      simp only [List.take_succ_cons, List.take_zero, List.drop_succ_cons, List.drop_zero]
      repeat (quiet_step (fail))
      refine wpQuiet_nil ?_
      clear y1 y2 c1 c2
      intro W3 hw
      have hb3 : Below W2.heap.size W2 W3 := by
        obtain ⟨⟨d, os⟩, rfl⟩ := hw
        exact below_regrown _ d os
      clear hw
      have hB3 : Below w0.heap.size w0 W3 := hb2.out.trans (hb3.mono hb2.out.size)
      have C := Lib.hid (sym25_c t.tx (by unfold maxLen; omega) W3 S w0.heap.size B mk l n hf hl (hP2.out.below hb3) (hI'.out.below hB3) hG)
      have hT3 := Lib.hid (hT2.out.after hb3)
      have hlt2 : T < W2.heap.size := block_lt_of_cell hT2.out.c0
      have fa3 : Hid (∀ j, W3.frozen? ⟨T, j, none⟩ = w.frozen? ⟨T, j, none⟩) := Lib.hid (fun j => (hb3.frozen hlt2).trans (fa2.out j))
      have fc3 : Hid (∀ j, j < o ∨ o + 7 ≤ j → W3.cell? ⟨T, j, none⟩ = w.cell? ⟨T, j, none⟩) := Lib.hid (fun j hj => (hb3.cell hlt2).trans (fc2.out j hj))
      replace hK2 := Lib.hid (hK2.out.trans ((Kp.of hb3).wide (fun b e => e)))
      clear hb3 hB3 fa2 fc2 hT2 hP2 hb2
      have fl1 := fun (i : Int) (W : World) => show (Instr.field 108 (locV i) 1).run Tryd.prog W = .ok (.agg #[.int .u32 0, .int .u32 i]) W by kernel_rfl
      have fl2 := fun (i : Int) (W : World) => show (Instr.field 100 (.agg #[.int .u32 0, .int .u32 i]) 1).run Tryd.prog W = .ok (.int .u32 i) W by kernel_rfl
      have f3' : W3.frozen? ⟨T, o + 3, none⟩ = false := by rw [fa3.out]; exact hfr.out 3 (by omega)
      have hlt3 : T < W3.heap.size := block_lt_of_cell hT3.out.c0
      go_wp2_with (go_at_call 27; (with_reducible refine C.out.mono ?_); rintro e w4 ⟨rfl, hk4, hps4⟩; have c3 := hk4.cell hT3.out.c3 hTS; have f3 := hk4.froz hT3.out.c3 f3' hTS; replace hk4 := Lib.hid hk4; replace hps4 := Lib.hid hps4)
      refine bodyPost_end (v := .tuple #[]) (by simp [results, Tryd.results20, go_sem]) rfl ⟨rfl, ?_⟩
      rw [et.out.1, et.out.2]
      obtain ⟨S', hp', himp⟩ := hps4.out
      have hT4 : TAt w4 T o { t with kd := 39 } := ⟨hk4.out.cell hT3.out.c0 hTS, hk4.out.cell hT3.out.c1 hTS, hk4.out.cell hT3.out.c2 hTS, hk4.out.cell hT3.out.c3 hTS, hk4.out.cell hT3.out.c4 hTS, hk4.out.cell hT3.out.c5 hTS, hk4.out.cell hT3.out.c6 hTS⟩
      have hkT : Kp (fun b => b = T) w4 (w4.setCell ⟨T, o + 3, none⟩ (.int .u32 (numS l t.tx))) := (Kp.refl w4).set ⟨T, o + 3, none⟩ _ (.inl rfl)
      have ne : ∀ {i j : Nat}, i ≠ j → (⟨T, i, none⟩ : Addr) ≠ ⟨T, j, none⟩ := fun h e => h (by injection e)
      have hKs := hK2.out.size
      exact ⟨(hK2.out.trans (hk4.out.wide (fun b q => .inl q))).trans (hkT.wide (fun b q => .inr q)),
        ⟨S', hp'.kept hkT (fun k e h => by subst e; rcases himp _ h with q | q; exact hTS q; omega), fun k h => (himp k h).imp id (fun q => by omega)⟩,
        ⟨by rw [co (ne (by omega))]; exact hT4.c0, by rw [co (ne (by omega))]; exact hT4.c1, by rw [co (ne (by omega))]; exact hT4.c2, cs hT4.c3, by rw [co (ne (by omega))]; exact hT4.c4, by rw [co (ne (by omega))]; exact hT4.c5, by rw [co (ne (by omega))]; exact hT4.c6⟩,
        fun j hj => by rw [co (by intro e; injection e; omega), World.cell?_of_block (hk4.out.block T hlt3 hTS)]; exact fc3.out j hj,
        fun j => by rw [fz, World.frozen?_of_block (hk4.out.block T hlt3 hTS)]; exact fa3.out j⟩
    · by_cases h36 : t.kd = 36
      · by_cases hmk : mk = false
        · rw [h36] at c5
          rw [hmk] at c54
          have hk : keeps low res t.tx = false := by simpa [h36, hmk] using hst'
          rw [hk] at hLow
          clear hst' h29 h36 hmk
          go_upto_region 1 with (go_at_call 26; (with_reducible refine hLow.out.mono ?_); rintro e w1 ⟨rfl, hb1⟩; replace hb1 := Lib.hid hb1)
          clear c1 c5 c54 hLow
          have z1 := hb1.out.size
          replace hT := Lib.hid (hT.out.after hb1.out)
          have c5 := hT.out.c5
          have fa : Hid (∀ j, w1.frozen? ⟨T, j, none⟩ = w.frozen? ⟨T, j, none⟩) := Lib.hid (fun j => hb1.out.frozen hlt)
          have fc : Hid (∀ j, w1.cell? ⟨T, j, none⟩ = w.cell? ⟨T, j, none⟩) := Lib.hid (fun j => hb1.out.cell hlt)
          have f5 : w1.frozen? ⟨T, o + 5, none⟩ = false := by rw [fa.out]; exact hfr.out 5 (by omega)
          go_upto_region 2 with fail
          refine wp_gen (fun W2 hW => ?_)
          have hk2 : Kp (fun b => b = T) w1 W2 := by rw [hW]; exact (Kp.refl w1).set ⟨T, o + 5, none⟩ _ (.inl rfl)
          have hT2 : Hid (TAt W2 T o { t with kd := 39 }) := Lib.hid (by
            have ne : ∀ {i j : Nat}, i ≠ j → (⟨T, i, none⟩ : Addr) ≠ ⟨T, j, none⟩ := fun h e => h (by injection e)
            rw [hW]
            exact ⟨by rw [co (ne (by omega))]; exact hT.out.c0, by rw [co (ne (by omega))]; exact hT.out.c1, by rw [co (ne (by omega))]; exact hT.out.c2, by rw [co (ne (by omega))]; exact hT.out.c3, by rw [co (ne (by omega))]; exact hT.out.c4, cs hT.out.c5, by rw [co (ne (by omega))]; exact hT.out.c6⟩)
          have fa2 : Hid (∀ j, W2.frozen? ⟨T, j, none⟩ = w.frozen? ⟨T, j, none⟩) := Lib.hid (fun j => by rw [hW, fz]; exact fa.out j)
          have fc2 : Hid (∀ j, j < o ∨ o + 7 ≤ j → W2.cell? ⟨T, j, none⟩ = w.cell? ⟨T, j, none⟩) := Lib.hid (fun j hj => by rw [hW, co (by intro e; injection e; omega)]; exact fc.out j)
          clear hW c5 f5 fa fc hT
          have hP2 : Hid (PS W2 S w0.heap.size B mk l) := Lib.hid ((hPS.out.below hb1.out).kept hk2 (fun k e h => hTS (e ▸ h)))
          have hb2 : Hid (Below w0.heap.size w0 W2) := Lib.hid ((hb.out.trans (hb1.out.mono hb.out.size)).trans (hk2.below (Nat.le_trans hb.out.size z1) (fun b e => by omega)))
          have hK2 : Hid (Kp (fun b => S b ∨ b = T) w W2) := Lib.hid ((Kp.of hb1.out).trans (hk2.wide (fun b e => .inr e)))
          clear hb1 hk2 hPS
          have c1 := hT2.out.c1; have c2 := hT2.out.c2
          simp only [hlo] at c2
          have y1 := fun d os => cell_regrown c1 d os
          have y2 := fun d os => cell_regrown c2 d os
          refine drawn_tail_m 10 0 (by kernel_rfl) (by kernel_rfl) (by kernel_rfl) (by kernel_rfl) (fun Q hQ => ?_)
          simp only [List.take_succ_cons, List.take_zero, List.drop_succ_cons, List.drop_zero]
          repeat (quiet_step (fail))
          refine wpQuiet_nil ?_
          clear y1 y2 c1 c2
          intro W3 hw
          have hb3 : Below W2.heap.size W2 W3 := by
            obtain ⟨⟨d, os⟩, rfl⟩ := hw
            exact below_regrown _ d os
          clear hw
          have hB3 : Below w0.heap.size w0 W3 := hb2.out.trans (hb3.mono hb2.out.size)
          have C := Lib.hid (sym25_c t.tx (by unfold maxLen; omega) W3 S w0.heap.size B mk l n hf hl (hP2.out.below hb3) (hI'.out.below hB3) hG)
          have hT3 := Lib.hid (hT2.out.after hb3)
          have hlt2 : T < W2.heap.size := block_lt_of_cell hT2.out.c0
          have fa3 : Hid (∀ j, W3.frozen? ⟨T, j, none⟩ = w.frozen? ⟨T, j, none⟩) := Lib.hid (fun j => (hb3.frozen hlt2).trans (fa2.out j))
          have fc3 : Hid (∀ j, j < o ∨ o + 7 ≤ j → W3.cell? ⟨T, j, none⟩ = w.cell? ⟨T, j, none⟩) := Lib.hid (fun j hj => (hb3.cell hlt2).trans (fc2.out j hj))
          replace hK2 := Lib.hid (hK2.out.trans ((Kp.of hb3).wide (fun b e => e)))
          clear hb3 hB3 fa2 fc2 hT2 hP2 hb2
          have fl1 := fun (i : Int) (W : World) => show (Instr.field 108 (locV i) 1).run Tryd.prog W = .ok (.agg #[.int .u32 0, .int .u32 i]) W by kernel_rfl
          have fl2 := fun (i : Int) (W : World) => show (Instr.field 100 (.agg #[.int .u32 0, .int .u32 i]) 1).run Tryd.prog W = .ok (.int .u32 i) W by kernel_rfl
          have f3' : W3.frozen? ⟨T, o + 3, none⟩ = false := by rw [fa3.out]; exact hfr.out 3 (by omega)
          have hlt3 : T < W3.heap.size := block_lt_of_cell hT3.out.c0
          go_wp2_with (go_at_call 27; (with_reducible refine C.out.mono ?_); rintro e w4 ⟨rfl, hk4, hps4⟩; have c3 := hk4.cell hT3.out.c3 hTS; have f3 := hk4.froz hT3.out.c3 f3' hTS; replace hk4 := Lib.hid hk4; replace hps4 := Lib.hid hps4)
          refine bodyPost_end (v := .tuple #[]) (by simp [results, Tryd.results20, go_sem]) rfl ⟨rfl, ?_⟩
          rw [et.out.1, et.out.2]
          obtain ⟨S', hp', himp⟩ := hps4.out
          have hT4 : TAt w4 T o { t with kd := 39 } := ⟨hk4.out.cell hT3.out.c0 hTS, hk4.out.cell hT3.out.c1 hTS, hk4.out.cell hT3.out.c2 hTS, hk4.out.cell hT3.out.c3 hTS, hk4.out.cell hT3.out.c4 hTS, hk4.out.cell hT3.out.c5 hTS, hk4.out.cell hT3.out.c6 hTS⟩
          have hkT : Kp (fun b => b = T) w4 (w4.setCell ⟨T, o + 3, none⟩ (.int .u32 (numS l t.tx))) := (Kp.refl w4).set ⟨T, o + 3, none⟩ _ (.inl rfl)
          have ne : ∀ {i j : Nat}, i ≠ j → (⟨T, i, none⟩ : Addr) ≠ ⟨T, j, none⟩ := fun h e => h (by injection e)
          have hKs := hK2.out.size
          exact ⟨(hK2.out.trans (hk4.out.wide (fun b q => .inl q))).trans (hkT.wide (fun b q => .inr q)),
            ⟨S', hp'.kept hkT (fun k e h => by subst e; rcases himp _ h with q | q; exact hTS q; omega), fun k h => (himp k h).imp id (fun q => by omega)⟩,
            ⟨by rw [co (ne (by omega))]; exact hT4.c0, by rw [co (ne (by omega))]; exact hT4.c1, by rw [co (ne (by omega))]; exact hT4.c2, cs hT4.c3, by rw [co (ne (by omega))]; exact hT4.c4, by rw [co (ne (by omega))]; exact hT4.c5, by rw [co (ne (by omega))]; exact hT4.c6⟩,
            fun j hj => by rw [co (by intro e; injection e; omega), World.cell?_of_block (hk4.out.block T hlt3 hTS)]; exact fc3.out j hj,
            fun j => by rw [fz, World.frozen?_of_block (hk4.out.block T hlt3 hTS)]; exact fa3.out j⟩
        · rw [h36] at c5
          have hmk' : mk = true := by simpa using hmk
          rw [hmk'] at c54
          clear hst' h29 h36 hmk hmk'
          go_upto_region 1 with fail
          refine wp_gen (fun w1 hW => ?_)
          have hb1 : Hid (Below w.heap.size w w1) := Lib.hid (by rw [hW]; exact Below.refl _ _)
          clear hW
          clear c1 c5 c54 hLow
          have z1 := hb1.out.size
          replace hT := Lib.hid (hT.out.after hb1.out)
          have c5 := hT.out.c5
          have fa : Hid (∀ j, w1.frozen? ⟨T, j, none⟩ = w.frozen? ⟨T, j, none⟩) := Lib.hid (fun j => hb1.out.frozen hlt)
          have fc : Hid (∀ j, w1.cell? ⟨T, j, none⟩ = w.cell? ⟨T, j, none⟩) := Lib.hid (fun j => hb1.out.cell hlt)
          have f5 : w1.frozen? ⟨T, o + 5, none⟩ = false := by rw [fa.out]; exact hfr.out 5 (by omega)
          go_upto_region 2 with fail
          refine wp_gen (fun W2 hW => ?_)
          have hk2 : Kp (fun b => b = T) w1 W2 := by rw [hW]; exact (Kp.refl w1).set ⟨T, o + 5, none⟩ _ (.inl rfl)
          have hT2 : Hid (TAt W2 T o { t with kd := 39 }) := Lib.hid (by
            have ne : ∀ {i j : Nat}, i ≠ j → (⟨T, i, none⟩ : Addr) ≠ ⟨T, j, none⟩ := fun h e => h (by injection e)
            rw [hW]
            exact ⟨by rw [co (ne (by omega))]; exact hT.out.c0, by rw [co (ne (by omega))]; exact hT.out.c1, by rw [co (ne (by omega))]; exact hT.out.c2, by rw [co (ne (by omega))]; exact hT.out.c3, by rw [co (ne (by omega))]; exact hT.out.c4, cs hT.out.c5, by rw [co (ne (by omega))]; exact hT.out.c6⟩)
          have fa2 : Hid (∀ j, W2.frozen? ⟨T, j, none⟩ = w.frozen? ⟨T, j, none⟩) := Lib.hid (fun j => by rw [hW, fz]; exact fa.out j)
          have fc2 : Hid (∀ j, j < o ∨ o + 7 ≤ j → W2.cell? ⟨T, j, none⟩ = w.cell? ⟨T, j, none⟩) := Lib.hid (fun j hj => by rw [hW, co (by intro e; injection e; omega)]; exact fc.out j)
          clear hW c5 f5 fa fc hT
          have hP2 : Hid (PS W2 S w0.heap.size B mk l) := Lib.hid ((hPS.out.below hb1.out).kept hk2 (fun k e h => hTS (e ▸ h)))
          have hb2 : Hid (Below w0.heap.size w0 W2) := Lib.hid ((hb.out.trans (hb1.out.mono hb.out.size)).trans (hk2.below (Nat.le_trans hb.out.size z1) (fun b e => by omega)))
          have hK2 : Hid (Kp (fun b => S b ∨ b = T) w W2) := Lib.hid ((Kp.of hb1.out).trans (hk2.wide (fun b e => .inr e)))
          clear hb1 hk2 hPS
          have c1 := hT2.out.c1; have c2 := hT2.out.c2
          simp only [hlo] at c2
          have y1 := fun d os => cell_regrown c1 d os
          have y2 := fun d os => cell_regrown c2 d os
          refine drawn_tail_m 10 0 (by kernel_rfl) (by kernel_rfl) (by kernel_rfl) (by kernel_rfl) (fun Q hQ => ?_)
          simp only [List.take_succ_cons, List.take_zero, List.drop_succ_cons, List.drop_zero]
          repeat (quiet_step (fail))
          refine wpQuiet_nil ?_
          clear y1 y2 c1 c2
          intro W3 hw
          have hb3 : Below W2.heap.size W2 W3 := by
            obtain ⟨⟨d, os⟩, rfl⟩ := hw
            exact below_regrown _ d os
          clear hw
          have hB3 : Below w0.heap.size w0 W3 := hb2.out.trans (hb3.mono hb2.out.size)
          have C := Lib.hid (sym25_c t.tx (by unfold maxLen; omega) W3 S w0.heap.size B mk l n hf hl (hP2.out.below hb3) (hI'.out.below hB3) hG)
          have hT3 := Lib.hid (hT2.out.after hb3)
          have hlt2 : T < W2.heap.size := block_lt_of_cell hT2.out.c0
          have fa3 : Hid (∀ j, W3.frozen? ⟨T, j, none⟩ = w.frozen? ⟨T, j, none⟩) := Lib.hid (fun j => (hb3.frozen hlt2).trans (fa2.out j))
          have fc3 : Hid (∀ j, j < o ∨ o + 7 ≤ j → W3.cell? ⟨T, j, none⟩ = w.cell? ⟨T, j, none⟩) := Lib.hid (fun j hj => (hb3.cell hlt2).trans (fc2.out j hj))
          replace hK2 := Lib.hid (hK2.out.trans ((Kp.of hb3).wide (fun b e => e)))
          clear hb3 hB3 fa2 fc2 hT2 hP2 hb2
          have fl1 := fun (i : Int) (W : World) => show (Instr.field 108 (locV i) 1).run Tryd.prog W = .ok (.agg #[.int .u32 0, .int .u32 i]) W by kernel_rfl
          have fl2 := fun (i : Int) (W : World) => show (Instr.field 100 (.agg #[.int .u32 0, .int .u32 i]) 1).run Tryd.prog W = .ok (.int .u32 i) W by kernel_rfl
          have f3' : W3.frozen? ⟨T, o + 3, none⟩ = false := by rw [fa3.out]; exact hfr.out 3 (by omega)
          have hlt3 : T < W3.heap.size := block_lt_of_cell hT3.out.c0
          go_wp2_with (go_at_call 27; (with_reducible refine C.out.mono ?_); rintro e w4 ⟨rfl, hk4, hps4⟩; have c3 := hk4.cell hT3.out.c3 hTS; have f3 := hk4.froz hT3.out.c3 f3' hTS; replace hk4 := Lib.hid hk4; replace hps4 := Lib.hid hps4)
          refine bodyPost_end (v := .tuple #[]) (by simp [results, Tryd.results20, go_sem]) rfl ⟨rfl, ?_⟩
          rw [et.out.1, et.out.2]
          obtain ⟨S', hp', himp⟩ := hps4.out
          have hT4 : TAt w4 T o { t with kd := 39 } := ⟨hk4.out.cell hT3.out.c0 hTS, hk4.out.cell hT3.out.c1 hTS, hk4.out.cell hT3.out.c2 hTS, hk4.out.cell hT3.out.c3 hTS, hk4.out.cell hT3.out.c4 hTS, hk4.out.cell hT3.out.c5 hTS, hk4.out.cell hT3.out.c6 hTS⟩
          have hkT : Kp (fun b => b = T) w4 (w4.setCell ⟨T, o + 3, none⟩ (.int .u32 (numS l t.tx))) := (Kp.refl w4).set ⟨T, o + 3, none⟩ _ (.inl rfl)
          have ne : ∀ {i j : Nat}, i ≠ j → (⟨T, i, none⟩ : Addr) ≠ ⟨T, j, none⟩ := fun h e => h (by injection e)
          have hKs := hK2.out.size
          exact ⟨(hK2.out.trans (hk4.out.wide (fun b q => .inl q))).trans (hkT.wide (fun b q => .inr q)),
            ⟨S', hp'.kept hkT (fun k e h => by subst e; rcases himp _ h with q | q; exact hTS q; omega), fun k h => (himp k h).imp id (fun q => by omega)⟩,
            ⟨by rw [co (ne (by omega))]; exact hT4.c0, by rw [co (ne (by omega))]; exact hT4.c1, by rw [co (ne (by omega))]; exact hT4.c2, cs hT4.c3, by rw [co (ne (by omega))]; exact hT4.c4, by rw [co (ne (by omega))]; exact hT4.c5, by rw [co (ne (by omega))]; exact hT4.c6⟩,
            fun j hj => by rw [co (by intro e; injection e; omega), World.cell?_of_block (hk4.out.block T hlt3 hTS)]; exact fc3.out j hj,
            fun j => by rw [fz, World.frozen?_of_block (hk4.out.block T hlt3 hTS)]; exact fa3.out j⟩
      · clear hst'
        go_upto_region 1 with fail
        refine wp_gen (fun w1 hW => ?_)
        have hb1 : Hid (Below w.heap.size w w1) := Lib.hid (by rw [hW]; exact Below.refl _ _)
        clear hW
        clear c1 c5 c54 hLow
        have z1 := hb1.out.size
        replace hT := Lib.hid (hT.out.after hb1.out)
        have c5 := hT.out.c5
        have fa : Hid (∀ j, w1.frozen? ⟨T, j, none⟩ = w.frozen? ⟨T, j, none⟩) := Lib.hid (fun j => hb1.out.frozen hlt)
        have fc : Hid (∀ j, w1.cell? ⟨T, j, none⟩ = w.cell? ⟨T, j, none⟩) := Lib.hid (fun j => hb1.out.cell hlt)
        have f5 : w1.frozen? ⟨T, o + 5, none⟩ = false := by rw [fa.out]; exact hfr.out 5 (by omega)
        go_upto_region 2 with fail
        refine wp_gen (fun W2 hW => ?_)
        have hk2 : Kp (fun b => b = T) w1 W2 := by rw [hW]; exact (Kp.refl w1).set ⟨T, o + 5, none⟩ _ (.inl rfl)
        have hT2 : Hid (TAt W2 T o { t with kd := 39 }) := Lib.hid (by
          have ne : ∀ {i j : Nat}, i ≠ j → (⟨T, i, none⟩ : Addr) ≠ ⟨T, j, none⟩ := fun h e => h (by injection e)
          rw [hW]
          exact ⟨by rw [co (ne (by omega))]; exact hT.out.c0, by rw [co (ne (by omega))]; exact hT.out.c1, by rw [co (ne (by omega))]; exact hT.out.c2, by rw [co (ne (by omega))]; exact hT.out.c3, by rw [co (ne (by omega))]; exact hT.out.c4, cs hT.out.c5, by rw [co (ne (by omega))]; exact hT.out.c6⟩)
        have fa2 : Hid (∀ j, W2.frozen? ⟨T, j, none⟩ = w.frozen? ⟨T, j, none⟩) := Lib.hid (fun j => by rw [hW, fz]; exact fa.out j)
        have fc2 : Hid (∀ j, j < o ∨ o + 7 ≤ j → W2.cell? ⟨T, j, none⟩ = w.cell? ⟨T, j, none⟩) := Lib.hid (fun j hj => by rw [hW, co (by intro e; injection e; omega)]; exact fc.out j)
        clear hW c5 f5 fa fc hT
        have hP2 : Hid (PS W2 S w0.heap.size B mk l) := Lib.hid ((hPS.out.below hb1.out).kept hk2 (fun k e h => hTS (e ▸ h)))
        have hb2 : Hid (Below w0.heap.size w0 W2) := Lib.hid ((hb.out.trans (hb1.out.mono hb.out.size)).trans (hk2.below (Nat.le_trans hb.out.size z1) (fun b e => by omega)))
        have hK2 : Hid (Kp (fun b => S b ∨ b = T) w W2) := Lib.hid ((Kp.of hb1.out).trans (hk2.wide (fun b e => .inr e)))
        clear hb1 hk2 hPS
        have c1 := hT2.out.c1; have c2 := hT2.out.c2
        simp only [hlo] at c2
        have y1 := fun d os => cell_regrown c1 d os
        have y2 := fun d os => cell_regrown c2 d os
        refine drawn_tail_m 10 0 (by kernel_rfl) (by kernel_rfl) (by kernel_rfl) (by kernel_rfl) (fun Q hQ => ?_)
        simp only [List.take_succ_cons, List.take_zero, List.drop_succ_cons, List.drop_zero]
        repeat (quiet_step (fail))
        refine wpQuiet_nil ?_
        clear y1 y2 c1 c2
        intro W3 hw
        have hb3 : Below W2.heap.size W2 W3 := by
          obtain ⟨⟨d, os⟩, rfl⟩ := hw
          exact below_regrown _ d os
        clear hw
        have hB3 : Below w0.heap.size w0 W3 := hb2.out.trans (hb3.mono hb2.out.size)
        have C := Lib.hid (sym25_c t.tx (by unfold maxLen; omega) W3 S w0.heap.size B mk l n hf hl (hP2.out.below hb3) (hI'.out.below hB3) hG)
        have hT3 := Lib.hid (hT2.out.after hb3)
        have hlt2 : T < W2.heap.size := block_lt_of_cell hT2.out.c0
        have fa3 : Hid (∀ j, W3.frozen? ⟨T, j, none⟩ = w.frozen? ⟨T, j, none⟩) := Lib.hid (fun j => (hb3.frozen hlt2).trans (fa2.out j))
        have fc3 : Hid (∀ j, j < o ∨ o + 7 ≤ j → W3.cell? ⟨T, j, none⟩ = w.cell? ⟨T, j, none⟩) := Lib.hid (fun j hj => (hb3.cell hlt2).trans (fc2.out j hj))
        replace hK2 := Lib.hid (hK2.out.trans ((Kp.of hb3).wide (fun b e => e)))
        clear hb3 hB3 fa2 fc2 hT2 hP2 hb2
        have fl1 := fun (i : Int) (W : World) => show (Instr.field 108 (locV i) 1).run Tryd.prog W = .ok (.agg #[.int .u32 0, .int .u32 i]) W by kernel_rfl
        have fl2 := fun (i : Int) (W : World) => show (Instr.field 100 (.agg #[.int .u32 0, .int .u32 i]) 1).run Tryd.prog W = .ok (.int .u32 i) W by kernel_rfl
        have f3' : W3.frozen? ⟨T, o + 3, none⟩ = false := by rw [fa3.out]; exact hfr.out 3 (by omega)
        have hlt3 : T < W3.heap.size := block_lt_of_cell hT3.out.c0
        go_wp2_with (go_at_call 27; (with_reducible refine C.out.mono ?_); rintro e w4 ⟨rfl, hk4, hps4⟩; have c3 := hk4.cell hT3.out.c3 hTS; have f3 := hk4.froz hT3.out.c3 f3' hTS; replace hk4 := Lib.hid hk4; replace hps4 := Lib.hid hps4)
        refine bodyPost_end (v := .tuple #[]) (by simp [results, Tryd.results20, go_sem]) rfl ⟨rfl, ?_⟩
        rw [et.out.1, et.out.2]
        obtain ⟨S', hp', himp⟩ := hps4.out
        have hT4 : TAt w4 T o { t with kd := 39 } := ⟨hk4.out.cell hT3.out.c0 hTS, hk4.out.cell hT3.out.c1 hTS, hk4.out.cell hT3.out.c2 hTS, hk4.out.cell hT3.out.c3 hTS, hk4.out.cell hT3.out.c4 hTS, hk4.out.cell hT3.out.c5 hTS, hk4.out.cell hT3.out.c6 hTS⟩
        have hkT : Kp (fun b => b = T) w4 (w4.setCell ⟨T, o + 3, none⟩ (.int .u32 (numS l t.tx))) := (Kp.refl w4).set ⟨T, o + 3, none⟩ _ (.inl rfl)
        have ne : ∀ {i j : Nat}, i ≠ j → (⟨T, i, none⟩ : Addr) ≠ ⟨T, j, none⟩ := fun h e => h (by injection e)
        have hKs := hK2.out.size
        exact ⟨(hK2.out.trans (hk4.out.wide (fun b q => .inl q))).trans (hkT.wide (fun b q => .inr q)),
          ⟨S', hp'.kept hkT (fun k e h => by subst e; rcases himp _ h with q | q; exact hTS q; omega), fun k h => (himp k h).imp id (fun q => by omega)⟩,
          ⟨by rw [co (ne (by omega))]; exact hT4.c0, by rw [co (ne (by omega))]; exact hT4.c1, by rw [co (ne (by omega))]; exact hT4.c2, cs hT4.c3, by rw [co (ne (by omega))]; exact hT4.c4, by rw [co (ne (by omega))]; exact hT4.c5, by rw [co (ne (by omega))]; exact hT4.c6⟩,
          fun j hj => by rw [co (by intro e; injection e; omega), World.cell?_of_block (hk4.out.block T hlt3 hTS)]; exact fc3.out j hj,
          fun j => by rw [fz, World.frozen?_of_block (hk4.out.block T hlt3 hTS)]; exact fa3.out j⟩
end Go.Proofs.YtlmnnejfcieddaaDoor
