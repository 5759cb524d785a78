/- Tokens that are turned into symbols one by one: the table and the tokens as functions; processAnimationName, walked. -/
import Derived.Test.YtlmnnejfcieddaaDoorAm1
set_option linter.unusedVariables false
set_option linter.unusedSimpArgs false
namespace Go.Proofs.YtlmnnejfcieddaaDoor
open Go.RowKit
/-- the table behind k tokens, of which those with 'cv' are converted -/
def Lp (F : Nat → Tk) (cv : Nat → Bool) (l : List SyR) : Nat → List SyR
  | 0 => l
  | k + 1 => if cv k = true then addS (Lp F cv l k) (F k).tx else Lp F cv l k
def Fp (F : Nat → Tk) (cv : Nat → Bool) (l : List SyR) (i : Nat) : Tk := if cv i = true then { F i with kd := 39, pl := numS (Lp F cv l i) (F i).tx } else F i
def Fk (F : Nat → Tk) (cv : Nat → Bool) (l : List SyR) (k i : Nat) : Tk := if i < k then Fp F cv l i else F i
theorem Lp_fit (F : Nat → Tk) (cv : Nat → Bool) (l : List SyR) (m : Nat) (hl : FitS l m) : ∀ k, FitS (Lp F cv l k) (m + k)
  | 0 => hl
  | k + 1 => by
    have h := Lp_fit F cv l m hl k
    unfold Lp
    split
    · exact h.add _
    · exact ⟨by have := h.len; omega, fun r hr => by have := h.uses r hr; omega⟩
/-- how a loop over the tokens stands -/
structure PrIt (w0 w : World) (S0 : Nat → Prop) (B : Nat) (mk : Bool) (T n : Nat) (F : Nat → Tk) (cv : Nat → Bool) (l : List SyR) (k : Nat) (wr : World) : Prop where
  le : k ≤ n
  kp : Kp (fun b => S0 b ∨ b = T) w wr
  ps : ∃ S : Nat → Prop, PS wr S w0.heap.size B mk (Lp F cv l k) ∧ (∀ b, S b → S0 b ∨ w.heap.size ≤ b)
  tok : TokR wr T n (Fk F cv l k)
  bel : Below w0.heap.size w0 wr
theorem TokR.below {w w' : World} {T n : Nat} {F : Nat → Tk} (h : TokR w T n F) (hb : Below w.heap.size w w') (hT : T < w.heap.size) : TokR w' T n F := ⟨fun i hi => (h.tok i hi).after hb, fun j hj => by rw [hb.frozen hT]; exact h.froz j hj⟩
theorem PrIt.below {w0 w wr w' : World} {S0 : Nat → Prop} {B : Nat} {mk : Bool} {T n : Nat} {F : Nat → Tk} {cv : Nat → Bool} {l : List SyR} {k : Nat} (h : PrIt w0 w S0 B mk T n F cv l k wr) (hT : T < w.heap.size) (hb : Below wr.heap.size wr w') : PrIt w0 w S0 B mk T n F cv l k w' := by
  obtain ⟨S, hp, hS⟩ := h.ps
  have hz := h.kp.size
  exact ⟨h.le, h.kp.trans (Kp.of hb), ⟨S, hp.below hb, hS⟩, h.tok.below hb (by omega), h.bel.trans (hb.mono h.bel.size)⟩
/-- a round in which the token stays -/
theorem PrIt.skip {w0 w wr w' : World} {S0 : Nat → Prop} {B : Nat} {mk : Bool} {T n : Nat} {F : Nat → Tk} {cv : Nat → Bool} {l : List SyR} {k : Nat} (h : PrIt w0 w S0 B mk T n F cv l k wr) (hk : k < n) (hT : T < w.heap.size) (hcv : cv k = false) (hb : Below wr.heap.size wr w') : PrIt w0 w S0 B mk T n F cv l (k + 1) w' := by
  have h := h.below hT hb
  have e1 : Lp F cv l (k + 1) = Lp F cv l k := by rw [Lp, if_neg (by simp [hcv])]
  refine ⟨hk, h.kp, by rw [e1]; exact h.ps, ⟨fun i hi => ?_, h.tok.froz⟩, h.bel⟩
  have := h.tok.tok i hi
  have e : Fk F cv l (k + 1) i = Fk F cv l k i := by
    unfold Fk
    by_cases q : i < k
    · rw [if_pos q, if_pos (by omega)]
    · by_cases q2 : i = k
      · subst q2
        rw [if_neg q, if_pos (by omega)]
        unfold Fp
        rw [if_neg (by simp [hcv])]
      · rw [if_neg q, if_neg (by omega)]
  rw [e]; exact this
theorem PrIt.step {res : ByteArray → Bool} {w0 w wr w' : World} {S0 S : Nat → Prop} {B : Nat} {mk : Bool} {T n k : Nat} {F : Nat → Tk} {cv : Nat → Bool} {l : List SyR} (h : PrIt w0 w S0 B mk T n F cv l k wr) (hk : k < n) (hTw : T < w.heap.size) (hT0 : w0.heap.size ≤ T) (hcv : stay lowS res mk (F k).kd (F k).tx = !cv k)
    (hS : ∀ b, S b → S0 b ∨ w.heap.size ≤ b) (hG : ∀ b, S b → w0.heap.size ≤ b)
    (hh : HsB wr S w0.heap.size B mk T (k * 7) (hsT lowS res mk (Lp F cv l k) (F k)) (hsL lowS res mk (Lp F cv l k) (F k)) w') : PrIt w0 w S0 B mk T n F cv l (k + 1) w' := by
  have e1 : hsT lowS res mk (Lp F cv l k) (F k) = Fp F cv l k := by
    unfold hsT Fp
    rw [hcv]
    cases cv k <;> rfl
  have e2 : hsL lowS res mk (Lp F cv l k) (F k) = Lp F cv l (k + 1) := by
    rw [Lp]
    unfold hsL
    rw [hcv]
    cases cv k <;> rfl
  rw [e1, e2] at hh
  have hz := h.kp.size
  obtain ⟨S', hp', hS'⟩ := hh.ps
  refine ⟨hk, h.kp.trans' hh.kp (fun b q hb => ?_), ⟨S', hp', fun b q => ?_⟩, ⟨fun i hi => ?_, fun j hj => ?_⟩, h.bel.trans (hh.kp.below h.bel.size (fun b q => ?_))⟩
  · rcases q with q | q
    · rcases hS b q with q | q
      · exact .inl q
      · omega
    · exact .inr q
  · rcases hS' b q with q | q
    · exact hS b q
    · exact .inr (by omega)
  · unfold Fk
    by_cases e : i = k
    · subst e
      rw [if_pos (by omega)]
      exact hh.tok
    · have := h.tok.tok i hi
      rw [show (if i < k + 1 then Fp F cv l i else F i) = Fk F cv l k i by unfold Fk; by_cases q : i < k; rw [if_pos q, if_pos (by omega)]; rw [if_neg q, if_neg (by omega)]]
      refine this.keep fun j hj => hh.far _ ?_
      omega
  · rw [hh.froz]; exact h.tok.froz j hj
  · rcases q with q | q
    · exact hG b q
    · omega
/-- the call at token k, from how the loop stands -/
theorem PrIt.call {res : ByteArray → Bool} {w0 w wr : World} (hL : Low lowS w0) (hR : Res res w0) (hI : Inv w0) (hG : 2 ≤ w0.heap.size) {S0 : Nat → Prop} {B : Nat} {mk : Bool} {T n k : Nat} {F : Nat → Tk} {cv : Nat → Bool} {l : List SyR} {m : Nat} (hl : FitS l m) (hm : m + n < 1048576) (h : PrIt w0 w S0 B mk T n F cv l k wr) (hk : k < n) (hTw : T < w.heap.size) (hT0 : w0.heap.size ≤ T) (hTS : ¬ S0 T) (hlo : (F k).lo = 0) (hs : (F k).tx.size ≤ 1048576)
    (hcv : stay lowS res mk (F k).kd (F k).tx = !cv k) : Calls Tryd.prog 20 #[.pointer (some ⟨B, 0, none⟩), .pointer (some ⟨T, k * 7, none⟩)] wr (fun e w' => e = .returned (.tuple #[]) ∧ PrIt w0 w S0 B mk T n F cv l (k + 1) w') := by
  obtain ⟨S', hps, hS'⟩ := h.ps
  have hGS : ∀ b, S' b → w0.heap.size ≤ b := by
    obtain ⟨m1, m2, v1, v2, D, h⟩ := hps
    exact h.gS
  have hTS' : ¬ S' T := fun h => by rcases hS' T h with q | q; exact hTS q; omega
  have tk := h.tok.tok k hk
  have e0 : Fk F cv l k k = F k := by unfold Fk; rw [if_neg (by omega)]
  rw [e0] at tk
  exact (hs20_c lowS res w0 _ hL hR hI h.bel S' B mk (Lp F cv l k) (m + k) (Lp_fit F cv l m hl k) (by omega) hps hG T (k * 7) (F k) tk hlo hs (lowS_size _ hs) hTS' hT0 (fun j hj => h.tok.froz _ (by omega))).mono fun e w' ⟨he, hh⟩ => ⟨he, h.step hk hTw hT0 hcv hS' hGS hh⟩
theorem PrIt.start {w0 w : World} {S0 : Nat → Prop} {B : Nat} {mk : Bool} {T n : Nat} {F : Nat → Tk} {cv : Nat → Bool} {l : List SyR} (hp : PS w S0 w0.heap.size B mk l) (ht : TokR w T n F) (hb : Below w0.heap.size w0 w) : PrIt w0 w S0 B mk T n F cv l 0 w :=
  ⟨by omega, Kp.refl w, ⟨S0, hp, fun b q => .inl q⟩, ⟨fun i hi => by unfold Fk; rw [if_neg (by omega)]; exact ht.tok i hi, ht.froz⟩, hb⟩
/-- the kinds that are looked at -/
def looked (kd : Int) : Bool := decide (kd = 29) || decide (kd = 36)
theorem info41 : (Tryd.prog.info? 41).map (fun i => (i.zero.map (·.cells), i.size, i.bytes)) = some (some tkZ, 7, 40) := by kernel_rfl
set_option maxRecDepth 100000 in
set_option maxHeartbeats 2000000 in
theorem proc25_c (res : ByteArray → Bool) (w0 w : World) (hL : Low lowS w0) (hR : Res res w0) (hI : Inv w0) (hb : Below w0.heap.size w0 w) (hG : 2 ≤ w0.heap.size) (S : Nat → Prop) (B : Nat) (mk : Bool) (l : List SyR) (m : Nat) (hl : FitS l m) (hp : PS w S w0.heap.size B mk l) (T n c : Nat) (F : Nat → Tk) (cv : Nat → Bool) (ht : TokR w T n F) (hTw : T < w.heap.size) (hT0 : w0.heap.size ≤ T) (hTS : ¬ S T) (hn : m + n < 1048576) (hs : ∀ i, i < n → (F i).ch = .pointer none ∧ (F i).lo = 0 ∧ (F i).tx.size ≤ 1048576)
    (hcv : ∀ i, i < n → cv i = (looked (F i).kd && !stay lowS res mk (F i).kd (F i).tx)) :
    Calls Tryd.prog 25 #[.pointer (some ⟨B, 0, none⟩), .slice (some ⟨T, 0, none⟩) n c] w (fun e w' => e = .returned (.tuple #[]) ∧ PrIt w0 w S B mk T n F cv l n w') := by
  have hL' := Lib.hid hL; have hR' := Lib.hid hR; have hI' := Lib.hid hI; have hs' := Lib.hid hs; have hcv' := Lib.hid hcv; have hl' := Lib.hid hl
  have st : Hid (PrIt w0 w S B mk T n F cv l 0 w) := Lib.hid (PrIt.start hp ht hb)
  clear hL hR hI hb hp ht hs hcv hl
  go_enter Tryd.func25, Tryd.ntmps25
  go_upto_region 1 with fail
  go_loopw [8] (fun i wr => ∃ k : Nat, i = .int .i64 k ∧ PrIt w0 w S B mk T n F cv l k wr) (fun i _ => n - (intOf i).toNat)
  case atStart => exact ⟨0, rfl, st.out⟩
  case round =>
    clear st
    obtain ⟨k, rfl, hP⟩ := hrel
    have hle := hP.le
    replace hP := Lib.hid hP
    by_cases hlt : k < n
    · have e0 : Fk F cv l k k = F k := by unfold Fk; rw [if_neg (by omega)]
      have tk := hP.out.tok.tok k hlt
      rw [e0] at tk
      have c0 := tk.c0; have c1 := tk.c1; have c2 := tk.c2; have c3 := tk.c3; have c4 := tk.c4; have c5 := tk.c5; have c6 := tk.c6
      rw [(hs'.out k hlt).1] at c0
      have hkc := hcv'.out k hlt
      clear tk e0
      have i0 : (0 : Int) ≤ k := by omega
      have i1 : (k : Int) < n := by omega
      go_upto_region 3 with fail
      refine wp_gen (fun W1 hW => ?_)
      have hb1 : Below wr.heap.size wr W1 := by rw [hW]; exact ba _ _
      have g5 : W1.cell? ⟨wr.heap.size, 5, none⟩ = some (.int .u8 (F k).kd) := by rw [hW]; simp [go_sem]
      have hP1 := Lib.hid (hP.out.below hTw hb1)
      have hPs := fun (q : cv k = false) => hP.out.skip hlt hTw q hb1
      replace hPs := Lib.hid hPs
      clear hW c0 c1 c2 c3 c4 c5 c6
      by_cases h29 : (F k).kd = 29
      · rw [h29] at g5
        have C := Lib.hid (PrIt.call hL'.out hR'.out hI'.out hG hl'.out hn hP1.out hlt hTw hT0 hTS (hs'.out k hlt).2.1 (hs'.out k hlt).2.2 (by rw [hkc, h29]; simp [looked]))
        clear hkc h29
        go_wp2_with (go_at_call 20; (with_reducible refine C.out.mono ?_); rintro e w9 ⟨rfl, hh⟩; replace hh := Lib.hid hh)
        go_roundw
        case rel => exact ⟨k + 1, by go_num, hh.out⟩
        case measure => simp [intOf]; omega
      · by_cases h36 : (F k).kd = 36
        · rw [h36] at g5
          have C := Lib.hid (PrIt.call hL'.out hR'.out hI'.out hG hl'.out hn hP1.out hlt hTw hT0 hTS (hs'.out k hlt).2.1 (hs'.out k hlt).2.2 (by rw [hkc, h36]; simp [looked]))
          clear hkc h36 h29
          go_wp2_with (go_at_call 20; (with_reducible refine C.out.mono ?_); rintro e w9 ⟨rfl, hh⟩; replace hh := Lib.hid hh)
          go_roundw
          case rel => exact ⟨k + 1, by go_num, hh.out⟩
          case measure => simp [intOf]; omega
        · have q : Hid (cv k = false) := Lib.hid (by rw [hkc]; simp [looked, h29, h36])
          have b0 : ((F k).kd == 29) = false := by simpa using h29
          have b1 : ((F k).kd == 36) = false := by simpa using h36
          clear hkc
          go_wp2
          go_roundw
          case rel => exact ⟨k + 1, by go_num, hPs.out q.out⟩
          case measure => simp [intOf]; omega
    · obtain rfl : k = n := by omega
      go_wp2
      exact bodyPost_end (v := .tuple #[]) (by simp [results, Tryd.results25, go_sem]) rfl ⟨rfl, hP.out⟩
theorem proc14_c (B : Nat) (v : Value) (w : World) (Q : World → Prop) (h : Calls Tryd.prog 25 #[.pointer (some ⟨B, 0, none⟩), v] w (fun e w' => e = .returned (.tuple #[]) ∧ Q w')) :
    Calls Tryd.prog 14 #[.pointer (some ⟨B, 0, none⟩), v] w (fun e w' => e = .returned (.tuple #[]) ∧ Q w') := by
  have H := Lib.hid h
  clear h
  go_enter Tryd.func14, Tryd.ntmps14
  go_wp2_with (go_at_call 25; (with_reducible refine H.out.mono ?_); rintro e w1 ⟨rfl, hq⟩; replace hq := Lib.hid hq)
  exact bodyPost_end (v := .tuple #[]) (by simp [results, Tryd.results14, go_sem]) rfl ⟨rfl, hq.out⟩
end Go.Proofs.YtlmnnejfcieddaaDoor
