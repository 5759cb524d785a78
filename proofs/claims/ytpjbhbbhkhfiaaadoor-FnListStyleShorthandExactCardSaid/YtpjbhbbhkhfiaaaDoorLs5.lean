/- processListStyleShorthand, walked. -/
import Derived.Test.YtpjbhbbhkhfiaaaDoorLs4
import Derived.Test.YtpjbhbbhkhfiaaaDoorSy4
import Derived.Test.YtpjbhbbhkhfiaaaDoorEN
set_option linter.unusedVariables false
set_option linter.unusedSimpArgs false
namespace Go.Proofs.YtpjbhbbhkhfiaaaDoor
open Go.RowKit
/-- a token that the law has built -/
abbrev zT (kd : Int) (tx : ByteArray) (pl : Int) : Tk := ⟨.pointer none, tx, 0, pl, 0, kd, 0⟩
def LowP (low : ByteArray → ByteArray) (w : World) : Prop := ∀ s w', s.size ≤ 1048576 → Below w.heap.size w w' → Calls Tryd.prog 29 #[.string s] w' (fun e w2 => e = .returned (.string (low s)) ∧ Below w'.heap.size w' w2)
/-- variable g, a set of words, answers by the list ws -/
def ResP (g : Nat) (ws : List (List UInt8)) (w : World) : Prop := ∃ bm es clock, w.cell? ⟨g, 0, none⟩ = some (.map (some bm)) ∧ w.heap[bm]? = some (.map es clock) ∧
  ∀ (s : ByteArray) (W : World), s.size ≤ maxLen → W.heap[bm]? = some (.map es clock) → (Instr.lookup 47 (.map (some bm)) (.string s) false).run Tryd.prog W = .ok (.bool (anyW ws s)) W
theorem ResP.look {g : Nat} {ws : List (List UInt8)} {w w' : World} (h : ResP g ws w) (hb : Below w.heap.size w w') : ∃ bm, w'.cell? ⟨g, 0, none⟩ = some (.map (some bm)) ∧ ∀ (s : ByteArray) (W : World), s.size ≤ maxLen → Below w.heap.size w W → (Instr.lookup 47 (.map (some bm)) (.string s) false).run Tryd.prog W = .ok (.bool (anyW ws s)) W := by
  obtain ⟨bm, es, clock, h1, h2, h3⟩ := h
  exact ⟨bm, ac hb h1, fun s W hs hW => h3 s W hs (by rw [hW.block _ (Array.getElem?_eq_some_iff.1 h2).1]; exact h2)⟩
/-- strings.ToLower and the law's folding agree on ASCII words -/
def Agr (low : ByteArray → ByteArray) : Prop := ∀ (s : ByteArray) (w : List UInt8), (∀ b ∈ w, b.toNat < 128) → ((low s).toList == w) = ((fS s).toList == w)
theorem Agr.any {low : ByteArray → ByteArray} (h : Agr low) (s : ByteArray) : ∀ ws : List (List UInt8), (∀ w ∈ ws, ∀ b ∈ w, b.toNat < 128) → anyW ws (low s) = anyW ws (fS s)
  | [], _ => rfl
  | w :: ws, hw => by
    unfold anyW
    rw [List.any_cons, List.any_cons, h s w (hw w (by simp))]
    congr 1
    exact Agr.any h s ws (fun u hu => hw u (by simp [hu]))
theorem img_ascii : ∀ w ∈ imgW, ∀ b ∈ w, b.toNat < 128 := by decide +kernel
theorem wid_ascii : ∀ w ∈ widW, ∀ b ∈ w, b.toNat < 128 := by decide +kernel
theorem pre_ascii : ∀ w ∈ preW, ∀ b ∈ w, b.toNat < 128 := by decide +kernel
theorem clF_low {low : ByteArray → ByteArray} (h : Agr low) (kd : Int) (s : ByteArray) : clF kd (fS s) = clF kd (low s) := by
  unfold clF
  rw [h.any s imgW img_ascii, h.any s widW wid_ascii, h.any s preW pre_ascii, h s wNone (by decide), h s wIn (by decide), h s wOut (by decide)]
theorem cl27 (f : ByteArray) : clF 27 f = 2 ∨ clF 27 f = 3 := by
  unfold clF
  simp only [show ¬ (27 : Int) = 36 by decide, show ¬ (27 : Int) = 37 by decide, if_false, if_true]
  split <;> simp
theorem cl57 {kd : Int} {f : ByteArray} (h : clF kd f = 5 ∨ clF kd f = 7) : kd = 29 := by
  unfold clF at h
  repeat' split at h
  all_goals first | assumption | omega
theorem pS_ti {cl : Nat → Nat} : ∀ n s, pS cl n = some s → s.ti = -1 ∨ (0 ≤ s.ti ∧ s.ti < n ∧ (cl s.ti.toNat = 5 ∨ cl s.ti.toNat = 7))
  | 0, s, h => by injection h with h; subst h; exact .inl rfl
  | n + 1, s, h => by
    have h : (pS cl n).bind (pStep (cl n) n) = some s := h
    cases hm : pS cl n with
    | none => rw [hm] at h; cases h
    | some t =>
      rw [hm] at h
      have h : pStep (cl n) n t = some s := h
      have ih : t.ti = -1 ∨ (0 ≤ t.ti ∧ t.ti < (n + 1 : Nat) ∧ (cl t.ti.toNat = 5 ∨ cl t.ti.toNat = 7)) := by
        rcases pS_ti n t hm with q | ⟨a, b, c⟩
        · exact .inl q
        · exact .inr ⟨a, by omega, c⟩
      unfold pStep at h
      by_cases q1 : cl n = 1 ∨ cl n = 2
      · rw [if_pos q1] at h
        split at h
        · injection h with h; subst h; exact ih
        · cases h
      · rw [if_neg q1] at h
        by_cases q2 : cl n = 4
        · rw [if_pos q2] at h; injection h with h; subst h; exact ih
        · rw [if_neg q2] at h
          by_cases q3 : cl n = 5 ∧ t.fp = false
          · rw [if_pos q3] at h; injection h with h; subst h; exact ih
          · rw [if_neg q3] at h
            by_cases q4 : (cl n = 5 ∨ cl n = 7) ∧ t.ti = -1
            · rw [if_pos q4] at h; injection h with h; subst h
              right
              refine ⟨by simp only; omega, by simp only; omega, ?_⟩
              simp only [Int.toNat_natCast]
              exact q4.1
            · rw [if_neg q4] at h; cases h
/-- what the code leaves -/
structure PrS (w : World) (S : Nat → Prop) (G B : Nat) (mk : Bool) (T i : Nat) (l : List SyR) (tx : ByteArray) (w' : World) : Prop where
  kp : Kp (fun b => S b ∨ b = T) w w'
  ps : ∃ S' : Nat → Prop, PS w' S' G B mk (addS l tx) ∧ ∀ k, S' k → S k ∨ w.heap.size ≤ k
  tok : TAt w' T (i * 7) (zT 39 tx (numS l tx))
  far : ∀ j, j < i * 7 ∨ i * 7 + 7 ≤ j → w'.cell? ⟨T, j, none⟩ = w.cell? ⟨T, j, none⟩
  froz : ∀ j, w'.frozen? ⟨T, j, none⟩ = w.frozen? ⟨T, j, none⟩
def PrP (w : World) (S : Nat → Prop) (G B : Nat) (mk : Bool) (T : Nat) (l : List SyR) (TX : Nat → ByteArray) (want : Int) (e : Ending) (w' : World) : Prop :=
  e = .returned (.tuple #[]) ∧ (want = -1 → Below w.heap.size w w') ∧ (∀ i : Nat, want = i → PrS w S G B mk T i l (TX i) w')
theorem PrP.no {w : World} {S : Nat → Prop} {G B : Nat} {mk : Bool} {T : Nat} {l : List SyR} {TX : Nat → ByteArray} {want : Int} {w' : World} (hw : want = -1) (hb : Below w.heap.size w w') : PrP w S G B mk T l TX want (.returned (.tuple #[])) w' :=
  ⟨rfl, fun _ => hb, fun i hi => by omega⟩
set_option maxRecDepth 100000 in
set_option maxHeartbeats 4000000 in
theorem proc_c (low : ByteArray → ByteArray) (w0 w : World) (hL : LowP low w0) (hA : Agr low) (hls : ∀ s, s.size ≤ 1048576 → (low s).size ≤ maxLen) (hR0 : ResP 0 widW w0) (hR1 : ResP 1 preW w0) (hI : Inv w0) (hb : Below w0.heap.size w0 w) (S : Nat → Prop) (B : Nat) (mk : Bool) (l : List SyR) (nf : Nat) (hf : FitS l nf) (hl : nf < 1048576) (hp : PS w S w0.heap.size B mk l) (hG : 3 ≤ w0.heap.size)
    (T n cT : Nat) (KD : Nat → Int) (TX : Nat → ByteArray) (PL : Nat → Int) (cl : Nat → Nat) (hcl : ∀ i, cl i = clF (KD i) (fS (TX i))) (hkd : ∀ i, KD i = 36 ∨ KD i = 37 ∨ KD i = 27 ∨ KD i = 39 ∨ KD i = 29) (hs : ∀ i, (TX i).size ≤ 1048576)
    (hz : ∀ i, i < n → TAt w T (i * 7) (zT (KD i) (TX i) (PL i))) (hTS : ¬ S T) (hTw : w0.heap.size ≤ T) (hfz : ∀ j, j < n * 7 → w.frozen? ⟨T, j, none⟩ = false) (l1 : 1 ≤ n) (l3 : n ≤ 3) :
    Calls Tryd.prog 23 #[.pointer (some ⟨B, 0, none⟩), .slice (some ⟨T, 0, none⟩) n cT] w (PrP w S w0.heap.size B mk T l TX (pR cl n)) := by
  have HZ := Lib.hid hz
  have HB0 := Lib.hid hb
  have HL := Lib.hid hL
  have HA := Lib.hid hA
  have HLS := Lib.hid hls
  have HCL : Hid (∀ i, cl i = clF (KD i) (low (TX i))) := Lib.hid fun i => by rw [hcl, clF_low hA]
  have HKD := Lib.hid hkd
  have HS := Lib.hid hs
  have HR0 := Lib.hid hR0
  have HR1 := Lib.hid hR1
  have HI := Lib.hid hI
  have HF := Lib.hid hf
  have HP := Lib.hid hp
  have HFZ := Lib.hid hfz
  have HTS := Lib.hid hTS
  clear hz hb hL hA hls hcl hkd hs hR0 hR1 hI hf hp hfz hTS
  go_enter Tryd.func23, Tryd.ntmps23
  go_upto_region 6 with fail
  go_loopw [4, 5, 6, 7, 22] (fun a b c d i wr => ∃ (k : Nat) (st : PSt), k ≤ n ∧ i = .int .i64 k ∧ a = .bool st.fi ∧ b = .bool st.fp ∧ c = .int .i64 st.ti ∧ d = .int .i64 st.nc ∧ Hid (pS cl k = some st) ∧ st.nc ≤ k ∧ -1 ≤ st.ti ∧ st.ti < k ∧ Below w.heap.size w wr) (fun _ _ _ _ i _ => n - (intOf i).toNat)
  case atStart => exact ⟨0, ⟨false, false, -1, 0⟩, by omega, rfl, rfl, rfl, rfl, rfl, Lib.hid rfl, Nat.le_refl _, by decide, by decide, Below.refl _ _⟩
  case round =>
    obtain ⟨k, ⟨fi, fp, ti, nc⟩, hkn, rfl, rfl, rfl, rfl, rfl, HM, b1, b2, b3, hB⟩ := hrel
    simp only at b1 b2 b3
    by_cases hlt : k < n
    · have HB := Lib.hid hB
      obtain ⟨d0, d1, d2, d3, d4, d5, d6⟩ := (HZ.out k hlt).after HB.out
      simp only at d0 d1 d2 d3 d4 d5 d6
      clear hB
      have NX : Hid (pS cl (k + 1) = pStep (cl k) k ⟨fi, fp, ti, nc⟩) := Lib.hid (by show (pS cl k).bind _ = _; rw [HM.out]; rfl)
      have EC := Lib.hid (HCL.out k)
      have hkd := HKD.out k
      have htx := HS.out k
      go_upto_region 9 with fail
      refine wp_gen fun W hW => ?_
      have x1 : W.cell? ⟨wr.heap.size, 1, none⟩ = some (.string (TX k)) := by rw [hW]; simp [go_sem]
      have HBW : Hid (Below w.heap.size w W) := Lib.hid (by rw [hW]; exact HB.out.alloc HB.out.size _)
      clear hW d0 d1 d2 d3 d4 d5 d6
      have CL := Lib.hid (HL.out (TX k) W htx (HB0.out.trans (HBW.out.mono HB0.out.size)))
      have hLs := HLS.out (TX k) htx
      clear htx
      generalize KD k = kd at *
      generalize TX k = tx at *
      generalize low tx = L at *
      rcases hkd with rfl | rfl | rfl | rfl | rfl
      · have EE' : Hid (pStep (cl k) k ⟨fi, fp, ti, nc⟩ = none) := Lib.hid (by rw [EC.out]; rfl)
        go_wp2
        refine bodyPost_ret (v := .tuple #[]) (by simp [results, Tryd.results23, go_sem]) rfl (PrP.no (by unfold pR; rw [pS_none (NX.out.trans EE'.out) (by omega : k + 1 ≤ n)]) HBW.out)
      · cases fi with
        | false =>
          have EE' : Hid (pStep (cl k) k ⟨false, fp, ti, nc⟩ = some ⟨true, fp, ti, nc⟩) := Lib.hid (by rw [EC.out]; rfl)
          go_wp2
          go_roundw
          case rel => exact ⟨k + 1, ⟨true, fp, ti, nc⟩, by omega, by go_num, rfl, rfl, rfl, rfl, Lib.hid (NX.out.trans EE'.out), by simp only; omega, by simp only; omega, by simp only; omega, HBW.out⟩
          case measure => simp [intOf]; omega
        | true =>
          have EE' : Hid (pStep (cl k) k ⟨true, fp, ti, nc⟩ = none) := Lib.hid (by rw [EC.out]; rfl)
          go_wp2
          refine bodyPost_ret (v := .tuple #[]) (by simp [results, Tryd.results23, go_sem]) rfl (PrP.no (by unfold pR; rw [pS_none (NX.out.trans EE'.out) (by omega : k + 1 ≤ n)]) HBW.out)
      · cases fi with
        | true =>
          have EE' : Hid (pStep (cl k) k ⟨true, fp, ti, nc⟩ = none) := Lib.hid (by rw [EC.out]; rcases cl27 L with q | q <;> rw [q] <;> rfl)
          go_wp2
          refine bodyPost_ret (v := .tuple #[]) (by simp [results, Tryd.results23, go_sem]) rfl (PrP.no (by unfold pR; rw [pS_none (NX.out.trans EE'.out) (by omega : k + 1 ≤ n)]) HBW.out)
        | false =>
          cases hb : anyW imgW L with
          | false =>
            have EE' : Hid (pStep (cl k) k ⟨false, fp, ti, nc⟩ = none) := Lib.hid (by rw [EC.out]; rw [show clF 27 L = 3 by unfold clF; rw [hb]; rfl]; rfl)
            have i0 := anyW_no _ _ hb 0 _ rfl
            have i1 := anyW_no _ _ hb 1 _ rfl
            have i2 := anyW_no _ _ hb 2 _ rfl
            have i3 := anyW_no _ _ hb 3 _ rfl
            have i4 := anyW_no _ _ hb 4 _ rfl
            clear hb
            go_wp2_with (go_at_call 29; (with_reducible refine CL.out.mono ?_); rintro e w2 ⟨rfl, hb2⟩; have HB2 := Lib.hid (HBW.out.trans (hb2.mono HBW.out.size)); clear hb2 CL)
            refine bodyPost_ret (v := .tuple #[]) (by simp [results, Tryd.results23, go_sem]) rfl (PrP.no (by unfold pR; rw [pS_none (NX.out.trans EE'.out) (by omega : k + 1 ≤ n)]) HB2.out)
          | true =>
            have EE' : Hid (pStep (cl k) k ⟨false, fp, ti, nc⟩ = some ⟨true, fp, ti, nc⟩) := Lib.hid (by rw [EC.out]; rw [show clF 27 L = 2 by unfold clF; rw [hb]; rfl]; rfl)
            obtain ⟨q, u, hu1, hu2, hu3⟩ := anyW_first _ _ hb
            have hq : q < 5 := (List.getElem?_eq_some_iff.1 hu1).1
            clear hb
            match q, hq with
            | 0, _ =>
              have i0 : (L.toList == [115, 114, 99]) = true := by injection hu1 with hu1; subst hu1; exact hu2
              clear hu1 hu2 hu3
              go_wp2_with (go_at_call 29; (with_reducible refine CL.out.mono ?_); rintro e w2 ⟨rfl, hb2⟩; have HB2 := Lib.hid (HBW.out.trans (hb2.mono HBW.out.size)); clear hb2 CL)
              go_roundw
              case rel => exact ⟨k + 1, ⟨true, fp, ti, nc⟩, by omega, by go_num, rfl, rfl, rfl, rfl, Lib.hid (NX.out.trans EE'.out), by simp only; omega, by simp only; omega, by simp only; omega, HB2.out⟩
              case measure => simp [intOf]; omega
            | 1, _ =>
              have i0 := hu3 0 _ (by omega) rfl
              have i1 : (L.toList == [108, 105, 110, 101, 97, 114, 45, 103, 114, 97, 100, 105, 101, 110, 116]) = true := by injection hu1 with hu1; subst hu1; exact hu2
              clear hu1 hu2 hu3
              go_wp2_with (go_at_call 29; (with_reducible refine CL.out.mono ?_); rintro e w2 ⟨rfl, hb2⟩; have HB2 := Lib.hid (HBW.out.trans (hb2.mono HBW.out.size)); clear hb2 CL)
              go_roundw
              case rel => exact ⟨k + 1, ⟨true, fp, ti, nc⟩, by omega, by go_num, rfl, rfl, rfl, rfl, Lib.hid (NX.out.trans EE'.out), by simp only; omega, by simp only; omega, by simp only; omega, HB2.out⟩
              case measure => simp [intOf]; omega
            | 2, _ =>
              have i0 := hu3 0 _ (by omega) rfl
              have i1 := hu3 1 _ (by omega) rfl
              have i2 : (L.toList == [114, 101, 112, 101, 97, 116, 105, 110, 103, 45, 108, 105, 110, 101, 97, 114, 45, 103, 114, 97, 100, 105, 101, 110, 116]) = true := by injection hu1 with hu1; subst hu1; exact hu2
              clear hu1 hu2 hu3
              go_wp2_with (go_at_call 29; (with_reducible refine CL.out.mono ?_); rintro e w2 ⟨rfl, hb2⟩; have HB2 := Lib.hid (HBW.out.trans (hb2.mono HBW.out.size)); clear hb2 CL)
              go_roundw
              case rel => exact ⟨k + 1, ⟨true, fp, ti, nc⟩, by omega, by go_num, rfl, rfl, rfl, rfl, Lib.hid (NX.out.trans EE'.out), by simp only; omega, by simp only; omega, by simp only; omega, HB2.out⟩
              case measure => simp [intOf]; omega
            | 3, _ =>
              have i0 := hu3 0 _ (by omega) rfl
              have i1 := hu3 1 _ (by omega) rfl
              have i2 := hu3 2 _ (by omega) rfl
              have i3 : (L.toList == [114, 97, 100, 105, 97, 108, 45, 103, 114, 97, 100, 105, 101, 110, 116]) = true := by injection hu1 with hu1; subst hu1; exact hu2
              clear hu1 hu2 hu3
              go_wp2_with (go_at_call 29; (with_reducible refine CL.out.mono ?_); rintro e w2 ⟨rfl, hb2⟩; have HB2 := Lib.hid (HBW.out.trans (hb2.mono HBW.out.size)); clear hb2 CL)
              go_roundw
              case rel => exact ⟨k + 1, ⟨true, fp, ti, nc⟩, by omega, by go_num, rfl, rfl, rfl, rfl, Lib.hid (NX.out.trans EE'.out), by simp only; omega, by simp only; omega, by simp only; omega, HB2.out⟩
              case measure => simp [intOf]; omega
            | 4, _ =>
              have i0 := hu3 0 _ (by omega) rfl
              have i1 := hu3 1 _ (by omega) rfl
              have i2 := hu3 2 _ (by omega) rfl
              have i3 := hu3 3 _ (by omega) rfl
              have i4 : (L.toList == [114, 97, 100, 105, 97, 108, 45, 108, 105, 110, 101, 97, 114, 45, 103, 114, 97, 100, 105, 101, 110, 116]) = true := by injection hu1 with hu1; subst hu1; exact hu2
              clear hu1 hu2 hu3
              go_wp2_with (go_at_call 29; (with_reducible refine CL.out.mono ?_); rintro e w2 ⟨rfl, hb2⟩; have HB2 := Lib.hid (HBW.out.trans (hb2.mono HBW.out.size)); clear hb2 CL)
              go_roundw
              case rel => exact ⟨k + 1, ⟨true, fp, ti, nc⟩, by omega, by go_num, rfl, rfl, rfl, rfl, Lib.hid (NX.out.trans EE'.out), by simp only; omega, by simp only; omega, by simp only; omega, HB2.out⟩
              case measure => simp [intOf]; omega
      · have EE' : Hid (pStep (cl k) k ⟨fi, fp, ti, nc⟩ = none) := Lib.hid (by rw [EC.out]; rfl)
        go_wp2
        refine bodyPost_ret (v := .tuple #[]) (by simp [results, Tryd.results23, go_sem]) rfl (PrP.no (by unfold pR; rw [pS_none (NX.out.trans EE'.out) (by omega : k + 1 ≤ n)]) HBW.out)
      · cases ha : (L.toList == wNone) with
        | true =>
          have EE' : Hid (pStep (cl k) k ⟨fi, fp, ti, nc⟩ = some ⟨fi, fp, ti, nc + 1⟩) := Lib.hid (by rw [EC.out]; rw [show clF 29 L = 4 by unfold clF; rw [ha]; rfl]; rfl)
          go_wp2_with (go_at_call 29; (with_reducible refine CL.out.mono ?_); rintro e w2 ⟨rfl, hb2⟩; have HB2 := Lib.hid (HBW.out.trans (hb2.mono HBW.out.size)); clear hb2 CL)
          go_roundw
          case rel => exact ⟨k + 1, ⟨fi, fp, ti, nc + 1⟩, by omega, by go_num, rfl, rfl, rfl, by go_num, Lib.hid (NX.out.trans EE'.out), by simp only; omega, by simp only; omega, by simp only; omega, HB2.out⟩
          case measure => simp [intOf]; omega
        | false =>
          have hcl5 : clF 29 L = if ((L.toList == wIn) || (L.toList == wOut)) = true then 5 else if (anyW widW L || anyW preW L) = true then 6 else 7 := by unfold clF; rw [ha]; rfl
          go_upto_region 24 with (go_at_call 29; (with_reducible refine CL.out.mono ?_); rintro e w2 ⟨rfl, hb2⟩; have HB2 := Lib.hid (HBW.out.trans (hb2.mono HBW.out.size)); clear hb2 CL)
          obtain ⟨bm0, y0, k0⟩ := HR0.out.look (HB0.out.trans (HB2.out.mono HB0.out.size))
          obtain ⟨bm1, y1, k1⟩ := HR1.out.look (HB0.out.trans (HB2.out.mono HB0.out.size))
          have lk0 := Lib.hid (k0 L w2 hLs (HB0.out.trans (HB2.out.mono HB0.out.size)))
          have lk1 := Lib.hid (k1 L w2 hLs (HB0.out.trans (HB2.out.mono HB0.out.size)))
          clear k0 k1
          have h0 := lk0.out
          have h1 := lk1.out
          clear lk0 lk1
          cases hi : (L.toList == wIn) with
          | true =>
            cases fp with
            | false =>
              have EE' : Hid (pStep (cl k) k ⟨fi, false, ti, nc⟩ = some ⟨fi, true, ti, nc⟩) := Lib.hid (by rw [EC.out]; rw [hcl5, hi]; rfl)
              clear hcl5
              go_wp2
              go_roundw
              case rel => exact ⟨k + 1, ⟨fi, true, ti, nc⟩, by omega, by go_num, rfl, rfl, rfl, rfl, Lib.hid (NX.out.trans EE'.out), by simp only; omega, by simp only; omega, by simp only; omega, HB2.out⟩
              case measure => simp [intOf]; omega
            | true =>
              have e5 : Hid (clF 29 L = 5) := Lib.hid (by rw [hcl5, hi]; rfl)
              have n5 := cl5_no e5.out
              rw [n5.1] at h0
              rw [n5.2] at h1
              clear n5 hcl5
              by_cases ht : ti = -1
              · subst ht
                have EE' : Hid (pStep (cl k) k ⟨fi, true, -1, nc⟩ = some ⟨fi, true, (k : Int), nc⟩) := Lib.hid (by rw [EC.out]; rw [e5.out]; rfl)
                go_wp2
                go_roundw
                case rel => exact ⟨k + 1, ⟨fi, true, (k : Int), nc⟩, by omega, by go_num, rfl, rfl, rfl, rfl, Lib.hid (NX.out.trans EE'.out), by simp only; omega, by simp only; omega, by simp only; omega, HB2.out⟩
                case measure => simp [intOf]; omega
              · have ht' : (ti == -1) = false := by simpa using ht
                have EE' : Hid (pStep (cl k) k ⟨fi, true, ti, nc⟩ = none) := Lib.hid (by rw [EC.out]; rw [e5.out]; unfold pStep; simp [ht])
                clear ht
                go_wp2
                refine bodyPost_ret (v := .tuple #[]) (by simp [results, Tryd.results23, go_sem]) rfl (PrP.no (by unfold pR; rw [pS_none (NX.out.trans EE'.out) (by omega : k + 1 ≤ n)]) HB2.out)
          | false =>
            cases ho : (L.toList == wOut) with
            | true =>
              cases fp with
              | false =>
                have EE' : Hid (pStep (cl k) k ⟨fi, false, ti, nc⟩ = some ⟨fi, true, ti, nc⟩) := Lib.hid (by rw [EC.out]; rw [hcl5, hi, ho]; rfl)
                clear hcl5
                go_wp2
                go_roundw
                case rel => exact ⟨k + 1, ⟨fi, true, ti, nc⟩, by omega, by go_num, rfl, rfl, rfl, rfl, Lib.hid (NX.out.trans EE'.out), by simp only; omega, by simp only; omega, by simp only; omega, HB2.out⟩
                case measure => simp [intOf]; omega
              | true =>
                have e5 : Hid (clF 29 L = 5) := Lib.hid (by rw [hcl5, hi, ho]; rfl)
                have n5 := cl5_no e5.out
                rw [n5.1] at h0
                rw [n5.2] at h1
                clear n5 hcl5
                by_cases ht : ti = -1
                · subst ht
                  have EE' : Hid (pStep (cl k) k ⟨fi, true, -1, nc⟩ = some ⟨fi, true, (k : Int), nc⟩) := Lib.hid (by rw [EC.out]; rw [e5.out]; rfl)
                  go_wp2
                  go_roundw
                  case rel => exact ⟨k + 1, ⟨fi, true, (k : Int), nc⟩, by omega, by go_num, rfl, rfl, rfl, rfl, Lib.hid (NX.out.trans EE'.out), by simp only; omega, by simp only; omega, by simp only; omega, HB2.out⟩
                  case measure => simp [intOf]; omega
                · have ht' : (ti == -1) = false := by simpa using ht
                  have EE' : Hid (pStep (cl k) k ⟨fi, true, ti, nc⟩ = none) := Lib.hid (by rw [EC.out]; rw [e5.out]; unfold pStep; simp [ht])
                  clear ht
                  go_wp2
                  refine bodyPost_ret (v := .tuple #[]) (by simp [results, Tryd.results23, go_sem]) rfl (PrP.no (by unfold pR; rw [pS_none (NX.out.trans EE'.out) (by omega : k + 1 ≤ n)]) HB2.out)
            | false =>
              have hcl6 : clF 29 L = if (anyW widW L || anyW preW L) = true then 6 else 7 := by rw [hcl5, hi, ho]; rfl
              clear hcl5
              cases hw : anyW widW L with
              | true =>
                have e6 : Hid (clF 29 L = 6) := Lib.hid (by rw [hcl6, hw]; rfl)
                rw [hw] at h0
                clear hcl6 hw
                by_cases ht : ti = -1
                · subst ht
                  have EE' : Hid (pStep (cl k) k ⟨fi, fp, -1, nc⟩ = none) := Lib.hid (by rw [EC.out]; rw [e6.out]; unfold pStep; simp)
                  cases fp
                  all_goals
                    go_wp2
                    refine bodyPost_ret (v := .tuple #[]) (by simp [results, Tryd.results23, go_sem]) rfl (PrP.no (by unfold pR; rw [pS_none (NX.out.trans EE'.out) (by omega : k + 1 ≤ n)]) HB2.out)
                · have ht' : (ti == -1) = false := by simpa using ht
                  have EE' : Hid (pStep (cl k) k ⟨fi, fp, ti, nc⟩ = none) := Lib.hid (by rw [EC.out]; rw [e6.out]; unfold pStep; simp)
                  clear ht
                  cases fp
                  all_goals
                    go_wp2
                    refine bodyPost_ret (v := .tuple #[]) (by simp [results, Tryd.results23, go_sem]) rfl (PrP.no (by unfold pR; rw [pS_none (NX.out.trans EE'.out) (by omega : k + 1 ≤ n)]) HB2.out)
              | false =>
                cases hpr : anyW preW L with
                | true =>
                  have e6 : Hid (clF 29 L = 6) := Lib.hid (by rw [hcl6, hw, hpr]; rfl)
                  rw [hw] at h0
                  rw [hpr] at h1
                  clear hcl6 hw hpr
                  by_cases ht : ti = -1
                  · subst ht
                    have EE' : Hid (pStep (cl k) k ⟨fi, fp, -1, nc⟩ = none) := Lib.hid (by rw [EC.out]; rw [e6.out]; unfold pStep; simp)
                    cases fp
                    all_goals
                      go_wp2
                      refine bodyPost_ret (v := .tuple #[]) (by simp [results, Tryd.results23, go_sem]) rfl (PrP.no (by unfold pR; rw [pS_none (NX.out.trans EE'.out) (by omega : k + 1 ≤ n)]) HB2.out)
                  · have ht' : (ti == -1) = false := by simpa using ht
                    have EE' : Hid (pStep (cl k) k ⟨fi, fp, ti, nc⟩ = none) := Lib.hid (by rw [EC.out]; rw [e6.out]; unfold pStep; simp)
                    clear ht
                    cases fp
                    all_goals
                      go_wp2
                      refine bodyPost_ret (v := .tuple #[]) (by simp [results, Tryd.results23, go_sem]) rfl (PrP.no (by unfold pR; rw [pS_none (NX.out.trans EE'.out) (by omega : k + 1 ≤ n)]) HB2.out)
                | false =>
                  have e7 : Hid (clF 29 L = 7) := Lib.hid (by rw [hcl6, hw, hpr]; rfl)
                  rw [hw] at h0
                  rw [hpr] at h1
                  clear hcl6 hw hpr
                  cases fp with
                  | false =>
                    by_cases ht : ti = -1
                    · subst ht
                      have EE' : Hid (pStep (cl k) k ⟨fi, false, -1, nc⟩ = some ⟨fi, false, (k : Int), nc⟩) := Lib.hid (by rw [EC.out]; rw [e7.out]; rfl)
                      go_wp2
                      go_roundw
                      case rel => exact ⟨k + 1, ⟨fi, false, (k : Int), nc⟩, by omega, by go_num, rfl, rfl, rfl, rfl, Lib.hid (NX.out.trans EE'.out), by simp only; omega, by simp only; omega, by simp only; omega, HB2.out⟩
                      case measure => simp [intOf]; omega
                    · have ht' : (ti == -1) = false := by simpa using ht
                      have EE' : Hid (pStep (cl k) k ⟨fi, false, ti, nc⟩ = none) := Lib.hid (by rw [EC.out]; rw [e7.out]; unfold pStep; simp [ht])
                      clear ht
                      go_wp2
                      refine bodyPost_ret (v := .tuple #[]) (by simp [results, Tryd.results23, go_sem]) rfl (PrP.no (by unfold pR; rw [pS_none (NX.out.trans EE'.out) (by omega : k + 1 ≤ n)]) HB2.out)
                  | true =>
                    by_cases ht : ti = -1
                    · subst ht
                      have EE' : Hid (pStep (cl k) k ⟨fi, true, -1, nc⟩ = some ⟨fi, true, (k : Int), nc⟩) := Lib.hid (by rw [EC.out]; rw [e7.out]; rfl)
                      go_wp2
                      go_roundw
                      case rel => exact ⟨k + 1, ⟨fi, true, (k : Int), nc⟩, by omega, by go_num, rfl, rfl, rfl, rfl, Lib.hid (NX.out.trans EE'.out), by simp only; omega, by simp only; omega, by simp only; omega, HB2.out⟩
                      case measure => simp [intOf]; omega
                    · have ht' : (ti == -1) = false := by simpa using ht
                      have EE' : Hid (pStep (cl k) k ⟨fi, true, ti, nc⟩ = none) := Lib.hid (by rw [EC.out]; rw [e7.out]; unfold pStep; simp [ht])
                      clear ht
                      go_wp2
                      refine bodyPost_ret (v := .tuple #[]) (by simp [results, Tryd.results23, go_sem]) rfl (PrP.no (by unfold pR; rw [pS_none (NX.out.trans EE'.out) (by omega : k + 1 ≤ n)]) HB2.out)
    · obtain rfl : k = n := by omega
      have ER : Hid (pR cl k = pEnd ⟨fi, fp, ti, nc⟩) := Lib.hid (by unfold pR; rw [HM.out])
      have hti := pS_ti _ _ HM.out
      simp only at hti
      have HB := Lib.hid hB
      clear hB hlt
      by_cases ht : ti = -1
      · subst ht
        have e : Hid (pR cl k = -1) := Lib.hid (by rw [ER.out]; rfl)
        clear hti
        go_wp2
        refine bodyPost_ret (v := .tuple #[]) (by simp [results, Tryd.results23, go_sem]) rfl (PrP.no e.out HB.out)
      · rcases hti with hti | ⟨t1, t2, t3⟩
        · exact absurd hti ht
        · obtain ⟨i, rfl⟩ : ∃ i : Nat, ti = i := ⟨ti.toNat, by omega⟩
          have ht' : ((i : Int) != -1) = true := by simp
          have hki : Hid (KD i = 29) := Lib.hid (by
            simp only [Int.toNat_natCast] at t3
            rw [HCL.out] at t3
            exact cl57 t3)
          clear t3 ht
          have hik : i < k := by omega
          have hpe : pEnd ⟨fi, fp, (i : Int), nc⟩ = if (if fi = false ∧ 0 < nc then nc - 1 else nc) > 0 then -1 else (i : Int) := by unfold pEnd; simp only; rw [if_neg (by omega)]
          by_cases hn : (if fi = false ∧ 0 < nc then nc - 1 else nc) > 0
          · have e : Hid (pR cl k = -1) := Lib.hid (by rw [ER.out, hpe, if_pos hn])
            clear hpe ER
            cases fi with
            | true =>
              have hn : 0 < nc := by simp at hn; exact hn
              go_wp2
              refine bodyPost_ret (v := .tuple #[]) (by simp [results, Tryd.results23, go_sem]) rfl (PrP.no e.out HB.out)
            | false =>
              have hn2 : 2 ≤ nc := by
                by_cases c : 0 < nc
                · rw [if_pos ⟨rfl, c⟩] at hn; omega
                · rw [if_neg (fun q => c q.2)] at hn; omega
              clear hn
              go_wp2
              refine bodyPost_ret (v := .tuple #[]) (by simp [results, Tryd.results23, go_sem]) rfl (PrP.no e.out HB.out)
          · have e : Hid (pR cl k = (i : Int)) := Lib.hid (by rw [ER.out, hpe, if_neg hn])
            have hcase : (fi = true ∧ nc = 0) ∨ (fi = false ∧ nc = 0) ∨ (fi = false ∧ nc = 1) := by
              cases fi
              · by_cases c : 0 < nc
                · rw [if_pos ⟨rfl, c⟩] at hn; right; right; exact ⟨rfl, by omega⟩
                · right; left; exact ⟨rfl, by omega⟩
              · left; simp at hn; exact ⟨rfl, hn⟩
            clear hpe ER hn
            have hT := Lib.hid ((HZ.out i hik).after HB.out)
            have c5 : wr.cell? ⟨T, i * 7 + 5, none⟩ = some (.int .u8 29) := by have := hT.out.c5; simp only at this; rw [hki.out] at this; exact this
            have hlt := block_lt_of_cell (HZ.out i hik).c0
            have f5 : wr.frozen? ⟨T, i * 7 + 5, none⟩ = false := (HB.out.frozen (p := ⟨T, i * 7 + 5, none⟩) hlt).trans (HFZ.out _ (by omega))
            rcases hcase with ⟨rfl, rfl⟩ | ⟨rfl, rfl⟩ | ⟨rfl, rfl⟩
            all_goals
              have fa : Hid (∀ j, wr.frozen? ⟨T, j, none⟩ = w.frozen? ⟨T, j, none⟩) := Lib.hid (fun j => HB.out.frozen hlt)
              have fc : Hid (∀ j, wr.cell? ⟨T, j, none⟩ = w.cell? ⟨T, j, none⟩) := Lib.hid (fun j => HB.out.cell hlt)
              have g5 := Lib.hid f5
              go_upto_region 39 with fail
              refine wp_gen (fun W2 hW => ?_)
              have hk2 : Kp (fun b => b = T) wr W2 := by rw [hW]; exact (Kp.refl wr).set ⟨T, i * 7 + 5, none⟩ _ (.inl rfl)
              have hT2 : Hid (TAt W2 T (i * 7) (zT 39 (TX i) (PL i))) := Lib.hid (by
                have ne : ∀ {i j : Nat}, i ≠ j → (⟨T, i, none⟩ : Addr) ≠ ⟨T, j, none⟩ := fun h e => h (by injection e)
                rw [hW]
                exact ⟨by rw [co (ne (by omega))]; exact hT.out.c0, by rw [co (ne (by omega))]; exact hT.out.c1, by rw [co (ne (by omega))]; exact hT.out.c2, by rw [co (ne (by omega))]; exact hT.out.c3, by rw [co (ne (by omega))]; exact hT.out.c4, cs hT.out.c5, by rw [co (ne (by omega))]; exact hT.out.c6⟩)
              have fa2 : Hid (∀ j, W2.frozen? ⟨T, j, none⟩ = w.frozen? ⟨T, j, none⟩) := Lib.hid (fun j => by rw [hW, fz]; exact fa.out j)
              have fc2 : Hid (∀ j, j < i * 7 ∨ i * 7 + 7 ≤ j → W2.cell? ⟨T, j, none⟩ = w.cell? ⟨T, j, none⟩) := Lib.hid (fun j hj => by rw [hW, co (by intro e; injection e; omega)]; exact fc.out j)
              clear hW c5 f5 fa fc g5
              have z1 := HB.out.size
              have hP2 : Hid (PS W2 S w0.heap.size B mk l) := Lib.hid ((HP.out.below HB.out).kept hk2 (fun k e h => HTS.out (e ▸ h)))
              have hb2 : Hid (Below w0.heap.size w0 W2) := Lib.hid ((HB0.out.trans (HB.out.mono HB0.out.size)).trans (hk2.below (Nat.le_trans HB0.out.size z1) (fun b e => by omega)))
              have hK2 : Hid (Kp (fun b => S b ∨ b = T) w W2) := Lib.hid ((Kp.of HB.out).trans (hk2.wide (fun b e => .inr e)))
              clear hk2
              have c1 := hT2.out.c1; have c2 := hT2.out.c2
              simp only at c1 c2
              have y1 := fun d os => cell_regrown c1 d os
              have y2 := fun d os => cell_regrown c2 d os
              refine drawn_tail_m 10 0 (by kernel_rfl) (by kernel_rfl) (by kernel_rfl) (by kernel_rfl) (fun Q hQ => ?_)
              simp only [List.take_succ_cons, List.take_zero, List.drop_succ_cons, List.drop_zero]
              repeat (quiet_step (fail))
              refine wpQuiet_nil ?_
              clear y1 y2 c1 c2
              intro W3 hw
              have hb3 : Below W2.heap.size W2 W3 := by
                obtain ⟨⟨d, os⟩, rfl⟩ := hw
                exact below_regrown _ d os
              clear hw
              have hB3 : Below w0.heap.size w0 W3 := hb2.out.trans (hb3.mono hb2.out.size)
              have C := Lib.hid (sym25_c (TX i) (by have := HS.out i; unfold maxLen; omega) W3 S w0.heap.size B mk l nf HF.out hl (hP2.out.below hb3) (HI.out.below hB3) hG)
              have hT3 := Lib.hid (hT2.out.after hb3)
              have hlt2 : T < W2.heap.size := block_lt_of_cell hT2.out.c0
              have fa3 : Hid (∀ j, W3.frozen? ⟨T, j, none⟩ = w.frozen? ⟨T, j, none⟩) := Lib.hid (fun j => (hb3.frozen hlt2).trans (fa2.out j))
              have fc3 : Hid (∀ j, j < i * 7 ∨ i * 7 + 7 ≤ j → W3.cell? ⟨T, j, none⟩ = w.cell? ⟨T, j, none⟩) := Lib.hid (fun j hj => (hb3.cell hlt2).trans (fc2.out j hj))
              replace hK2 := Lib.hid (hK2.out.trans ((Kp.of hb3).wide (fun b e => e)))
              clear hb3 hB3 fa2 fc2 hT2 hP2 hb2
              have fl1 := fun (i : Int) (W : World) => show (Instr.field 103 (locV i) 1).run Tryd.prog W = .ok (.agg #[.int .u32 0, .int .u32 i]) W by kernel_rfl
              have fl2 := fun (i : Int) (W : World) => show (Instr.field 92 (.agg #[.int .u32 0, .int .u32 i]) 1).run Tryd.prog W = .ok (.int .u32 i) W by kernel_rfl
              have f3' : W3.frozen? ⟨T, i * 7 + 3, none⟩ = false := by rw [fa3.out]; exact HFZ.out _ (by omega)
              have hlt3 : T < W3.heap.size := block_lt_of_cell hT3.out.c0
              have F3 := Lib.hid f3'
              have LT3 := Lib.hid hlt3
              clear f3' hlt3
              go_wp2_with (go_at_call 30; (with_reducible refine C.out.mono ?_); rintro e4 w4 ⟨rfl, hk4, hps4⟩; have c3 := hk4.cell hT3.out.c3 HTS.out; have f3 := hk4.froz hT3.out.c3 F3.out HTS.out; replace hk4 := Lib.hid hk4; replace hps4 := Lib.hid hps4)
              refine bodyPost_end (v := .tuple #[]) (by simp [results, Tryd.results23, go_sem]) rfl ?_
              obtain ⟨S', hp', himp⟩ := hps4.out
              have hTS := HTS.out
              have hT4 : TAt w4 T (i * 7) (zT 39 (TX i) (PL i)) := ⟨hk4.out.cell hT3.out.c0 hTS, hk4.out.cell hT3.out.c1 hTS, hk4.out.cell hT3.out.c2 hTS, hk4.out.cell hT3.out.c3 hTS, hk4.out.cell hT3.out.c4 hTS, hk4.out.cell hT3.out.c5 hTS, hk4.out.cell hT3.out.c6 hTS⟩
              have hkT : Kp (fun b => b = T) w4 (w4.setCell ⟨T, i * 7 + 3, none⟩ (.int .u32 (numS l (TX i)))) := (Kp.refl w4).set ⟨T, i * 7 + 3, none⟩ _ (.inl rfl)
              have ne : ∀ {i j : Nat}, i ≠ j → (⟨T, i, none⟩ : Addr) ≠ ⟨T, j, none⟩ := fun h e => h (by injection e)
              have hKs := hK2.out.size
              refine ⟨rfl, fun q => by rw [e.out] at q; omega, fun i' hi' => ?_⟩
              obtain rfl : i = i' := by rw [e.out] at hi'; omega
              exact ⟨(hK2.out.trans (hk4.out.wide (fun b q => .inl q))).trans (hkT.wide (fun b q => .inr q)),
                ⟨S', hp'.kept hkT (fun k e h => by subst e; rcases himp _ h with q | q; exact hTS q; have := LT3.out; omega), fun k h => (himp k h).imp id (fun q => by omega)⟩,
                ⟨by rw [co (ne (by omega))]; exact hT4.c0, by rw [co (ne (by omega))]; exact hT4.c1, by rw [co (ne (by omega))]; exact hT4.c2, cs hT4.c3, by rw [co (ne (by omega))]; exact hT4.c4, by rw [co (ne (by omega))]; exact hT4.c5, by rw [co (ne (by omega))]; exact hT4.c6⟩,
                fun j hj => by rw [co (by intro e; injection e; omega), World.cell?_of_block (hk4.out.block T LT3.out hTS)]; exact fc3.out j hj,
                fun j => by rw [fz, World.frozen?_of_block (hk4.out.block T LT3.out hTS)]; exact fa3.out j⟩
end Go.Proofs.YtpjbhbbhkhfiaaaDoor
