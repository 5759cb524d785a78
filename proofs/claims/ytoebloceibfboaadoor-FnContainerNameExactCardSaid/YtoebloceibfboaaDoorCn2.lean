/- processContainerName, walked. -/
import Derived.Test.YtoebloceibfboaaDoorSy9
import Derived.Test.YtoebloceibfboaaDoorCn1
set_option linter.unusedVariables false
set_option linter.unusedSimpArgs false
namespace Go.Proofs.YtoebloceibfboaaDoor
open Go.RowKit
/-- the table behind k tokens -/
def Lk (Z : Nat → ZT) : Nat → List SyR
  | 0 => []
  | k + 1 => if resF (Z k).tx = true then Lk Z k else addS (Lk Z k) (Z k).tx
def tkOf (Z : Nat → ZT) (i : Nat) : Tk := if resF (Z i).tx = true then zF Z i else { zF Z i with kd := 39, pl := numS (Lk Z i) (Z i).tx }
def FP (Z : Nat → ZT) (k i : Nat) : Tk := if i < k then tkOf Z i else zF Z i
theorem Lk_fit (Z : Nat → ZT) : ∀ k, FitS (Lk Z k) k
  | 0 => FitS.nil 0
  | k + 1 => by
    have h := Lk_fit Z k
    unfold Lk
    split
    · exact ⟨by have := h.len; omega, fun r hr => by have := h.uses r hr; omega⟩
    · exact h.add _
def allId (Z : Nat → ZT) : Nat → Bool
  | 0 => true
  | k + 1 => allId Z k && decide ((Z k).k = 29)
theorem allId_false (Z : Nat → ZT) (k : Nat) (h : (Z k).k ≠ 29) : ∀ n, k < n → allId Z n = false := by
  intro n
  induction n with
  | zero => intro h; omega
  | succ n ih =>
    intro hk
    unfold allId
    by_cases e : k = n
    · subst e; simp [h]
    · rw [ih (by omega)]; rfl
/-- how the second loop stands -/
structure PrIt (w0 w : World) (S0 : Nat → Prop) (B : Nat) (mk : Bool) (T n : Nat) (Z : Nat → ZT) (k : Nat) (wr : World) : Prop where
  le : k ≤ n
  kp : Kp (fun b => S0 b ∨ b = T) w wr
  ps : ∃ S : Nat → Prop, PS wr S w0.heap.size B mk (Lk Z k) ∧ (∀ b, S b → S0 b ∨ w.heap.size ≤ b)
  tok : TokR wr T n (FP Z k)
  bel : Below w0.heap.size w0 wr
structure PrB (w0 w : World) (S0 : Nat → Prop) (B : Nat) (mk : Bool) (T n : Nat) (Z : Nat → ZT) (w' : World) : Prop where
  kp : Kp (fun b => S0 b ∨ b = T) w w'
  ps : ∃ S : Nat → Prop, PS w' S w0.heap.size B mk (if allId Z n = true then Lk Z n else [])
  tok : TokR w' T n (fun i => if allId Z n = true then tkOf Z i else zF Z i)
  bel : Below w0.heap.size w0 w'
theorem TokR.below {w w' : World} {T n : Nat} {F : Nat → Tk} (h : TokR w T n F) (hb : Below w.heap.size w w') (hT : T < w.heap.size) : TokR w' T n F := ⟨fun i hi => (h.tok i hi).after hb, fun j hj => by rw [hb.frozen hT]; exact h.froz j hj⟩
theorem PrB.quiet {w0 w w' : World} {S0 : Nat → Prop} {B : Nat} {mk : Bool} {T n : Nat} {Z : Nat → ZT} (hf : allId Z n = false) (hp : PS w S0 w0.heap.size B mk []) (ht : TokR w T n (zF Z)) (hT : T < w.heap.size) (hb0 : Below w0.heap.size w0 w) (hb : Below w.heap.size w w') : PrB w0 w S0 B mk T n Z w' :=
  ⟨Kp.of hb, ⟨S0, by rw [hf]; exact hp.below hb⟩, by rw [hf]; exact ht.below hb hT, hb0.trans (hb.mono hb0.size)⟩
theorem PrB.all {w0 w w' : World} {S0 : Nat → Prop} {B : Nat} {mk : Bool} {T n : Nat} {Z : Nat → ZT} (hf : allId Z n = true) (h : PrIt w0 w S0 B mk T n Z n w') : PrB w0 w S0 B mk T n Z w' := by
  obtain ⟨S', hp, -⟩ := h.ps
  refine ⟨h.kp, ⟨S', by rw [hf]; exact hp⟩, ⟨fun i hi => ?_, h.tok.froz⟩, h.bel⟩
  have := h.tok.tok i hi
  rw [if_pos hf]
  unfold FP at this
  rw [if_pos hi] at this
  exact this
theorem PrIt.step {res : ByteArray → Bool} (hres : ResOk res) {w0 w wr w' : World} {S0 S : Nat → Prop} {B : Nat} {mk : Bool} {T n k : Nat} {Z : Nat → ZT} (h : PrIt w0 w S0 B mk T n Z k wr) (hk : k < n) (hTw : T < w.heap.size) (hT0 : w0.heap.size ≤ T) (hS : ∀ b, S b → S0 b ∨ w.heap.size ≤ b) (hG : ∀ b, S b → w0.heap.size ≤ b)
    (hh : HsB wr S w0.heap.size B mk T (k * 7) (hsT lowS res (Lk Z k) (FP Z k k)) (hsL lowS res (Lk Z k) (FP Z k k)) w') : PrIt w0 w S0 B mk T n Z (k + 1) w' := by
  have e0 : FP Z k k = zF Z k := by unfold FP; rw [if_neg (by omega)]
  have ek := keeps_eq hres (zF Z k).tx
  have e1 : hsT lowS res (Lk Z k) (FP Z k k) = tkOf Z k := by
    rw [e0]; unfold hsT tkOf
    rw [ek]; rfl
  have e2 : hsL lowS res (Lk Z k) (FP Z k k) = Lk Z (k + 1) := by
    rw [e0]; unfold hsL
    rw [ek]; rfl
  rw [e1, e2] at hh
  have hz := h.kp.size
  obtain ⟨S', hp', hS'⟩ := hh.ps
  refine ⟨hk, h.kp.trans' hh.kp (fun b q hb => ?_), ⟨S', hp', fun b q => ?_⟩, ⟨fun i hi => ?_, fun j hj => ?_⟩, h.bel.trans (hh.kp.below h.bel.size (fun b q => ?_))⟩
  · rcases q with q | q
    · rcases hS b q with q | q
      · exact .inl q
      · omega
    · exact .inr q
  · rcases hS' b q with q | q
    · exact hS b q
    · exact .inr (by omega)
  · unfold FP
    by_cases e : i = k
    · subst e
      rw [if_pos (by omega)]
      exact hh.tok
    · have := h.tok.tok i hi
      rw [show (if i < k + 1 then tkOf Z i else zF Z i) = FP Z k i by unfold FP; by_cases q : i < k; rw [if_pos q, if_pos (by omega)]; rw [if_neg q, if_neg (by omega)]]
      refine this.keep fun j hj => hh.far _ ?_
      omega
  · rw [hh.froz]; exact h.tok.froz j hj
  · rcases q with q | q
    · exact hG b q
    · omega
set_option maxRecDepth 100000 in
set_option maxHeartbeats 2000000 in
theorem proc23_c (res : ByteArray → Bool) (hres : ResOk res) (w0 w : World) (hL : Low lowS w0) (hR : Res res w0) (hI : Inv w0) (hb : Below w0.heap.size w0 w) (hG : 2 ≤ w0.heap.size) (S : Nat → Prop) (B : Nat) (mk : Bool) (hp : PS w S w0.heap.size B mk []) (T n c : Nat) (Z : Nat → ZT) (ht : TokR w T n (zF Z)) (hTw : T < w.heap.size) (hT0 : w0.heap.size ≤ T) (hTS : ¬ S T) (hn : n ≤ 43690) (hs : ∀ i, i < n → (Z i).tx.size ≤ 1048576) :
    Calls Tryd.prog 23 #[.pointer (some ⟨B, 0, none⟩), .slice (some ⟨T, 0, none⟩) n c] w (fun e w' => e = .returned (.tuple #[]) ∧ PrB w0 w S B mk T n Z w') := by
  have hL' := Lib.hid hL; have hR' := Lib.hid hR; have hI' := Lib.hid hI; have hb' := Lib.hid hb; have hp' := Lib.hid hp; have ht' := Lib.hid ht; have hs' := Lib.hid hs; have hres' := Lib.hid hres
  clear hL hR hI hb hp ht hs hres
  go_enter Tryd.func23, Tryd.ntmps23
  go_upto_region 1 with fail
  go_loopw [9] (fun i wr => ∃ k : Nat, k ≤ n ∧ i = .int .i64 k ∧ allId Z k = true ∧ Below w.heap.size w wr) (fun i _ => n - (intOf i).toNat)
  case atStart => exact ⟨0, by omega, rfl, rfl, Below.refl _ _⟩
  case round =>
    obtain ⟨k, hk, rfl, hall, hB⟩ := hrel
    replace hB := Lib.hid hB
    replace hall := Lib.hid hall
    by_cases hlt : k < n
    · have tk := ht'.out.tok k hlt
      have c0 := ac hB.out tk.c0; have c1 := ac hB.out tk.c1; have c2 := ac hB.out tk.c2; have c3 := ac hB.out tk.c3; have c4 := ac hB.out tk.c4; have c5 := ac hB.out tk.c5; have c6 := ac hB.out tk.c6
      clear tk
      simp only [zF] at c0 c1 c2 c3 c4 c5 c6
      have i0 : (0 : Int) ≤ k := by omega
      have i1 : (k : Int) < n := by omega
      by_cases h29 : (Z k).k = 29
      · go_wp2
        go_roundw
        case rel => exact ⟨k + 1, by omega, by go_num, by unfold allId; rw [hall.out, h29]; rfl, hB.out.trans ((ba _ _).mono hB.out.size)⟩
        case measure => simp [intOf]; omega
      · have hf := Lib.hid (allId_false Z k h29 n hlt)
        go_wp2
        exact bodyPost_ret (v := .tuple #[]) (by simp [results, Tryd.results23, go_sem]) rfl ⟨rfl, PrB.quiet hf.out hp'.out ht'.out hTw hb'.out (hB.out.trans ((ba _ _).mono hB.out.size))⟩
    · obtain rfl : k = n := by omega
      have st : Hid (PrIt w0 w S B mk T k Z 0 wr) := Lib.hid ⟨by omega, Kp.of hB.out, ⟨S, hp'.out.below hB.out, fun b q => .inl q⟩, by
        have := ht'.out.below hB.out hTw
        exact ⟨fun i hi => by unfold FP; rw [if_neg (by omega)]; exact this.tok i hi, this.froz⟩, hb'.out.trans (hB.out.mono hb'.out.size)⟩
      go_wp2
      go_loopw [19] (fun i wr => ∃ m : Nat, i = .int .i64 m ∧ PrIt w0 w S B mk T k Z m wr) (fun i _ => k - (intOf i).toNat)
      case atStart => exact ⟨0, rfl, st.out⟩
      case round =>
        clear st
        obtain ⟨m, rfl, hP⟩ := hrel
        have hle := hP.le
        have hzz := hP.kp.size
        replace hP := Lib.hid hP
        by_cases hlt : m < k
        · obtain ⟨S', hps, hS'⟩ := hP.out.ps
          have hGS : ∀ b, S' b → w0.heap.size ≤ b := by
            obtain ⟨m1, m2, v1, v2, D, h⟩ := hps
            exact h.gS
          have hTS' : ¬ S' T := fun h => by rcases hS' T h with q | q; exact hTS q; omega
          have e0 : FP Z m m = zF Z m := by unfold FP; rw [if_neg (by omega)]
          have tk := hP.out.tok.tok m hlt
          have C18 := Lib.hid (hs18_c lowS res w0 _ hL'.out hR'.out hI'.out hP.out.bel S' B mk (Lk Z m) m (Lk_fit Z m) (by omega) hps hG T (m * 7) (FP Z m m) tk (by rw [e0]; rfl) (by rw [e0]; exact hs'.out m hlt) (by rw [e0]; exact lowS_size _ (hs'.out m hlt)) hTS' hT0 (fun j hj => hP.out.tok.froz _ (by omega)))
          replace hS' := Lib.hid hS'; replace hGS := Lib.hid hGS
          clear hps hTS' e0 tk
          have i0 : (0 : Int) ≤ m := by omega
          have i1 : (m : Int) < k := by omega
          go_wp2_with (go_at_call 18; (with_reducible refine C18.out.mono ?_); rintro e w9 ⟨rfl, hh⟩; replace hh := Lib.hid hh)
          go_roundw
          case rel => exact ⟨m + 1, by go_num, hP.out.step hres'.out hlt hTw hT0 hS'.out hGS.out hh.out⟩
          case measure => simp [intOf]; omega
        · obtain rfl : m = k := by omega
          go_wp2
          exact bodyPost_end (v := .tuple #[]) (by simp [results, Tryd.results23, go_sem]) rfl ⟨rfl, PrB.all hall.out hP.out⟩
theorem proc16_c (B : Nat) (v : Value) (w : World) (Q : World → Prop) (h : Calls Tryd.prog 23 #[.pointer (some ⟨B, 0, none⟩), v] w (fun e w' => e = .returned (.tuple #[]) ∧ Q w')) :
    Calls Tryd.prog 16 #[.pointer (some ⟨B, 0, none⟩), v] w (fun e w' => e = .returned (.tuple #[]) ∧ Q w') := by
  have H := Lib.hid h
  clear h
  go_enter Tryd.func16, Tryd.ntmps16
  go_wp2_with (go_at_call 23; (with_reducible refine H.out.mono ?_); rintro e w1 ⟨rfl, hq⟩; replace hq := Lib.hid hq)
  exact bodyPost_end (v := .tuple #[]) (by simp [results, Tryd.results16, go_sem]) rfl ⟨rfl, hq.out⟩
end Go.Proofs.YtoebloceibfboaaDoor
