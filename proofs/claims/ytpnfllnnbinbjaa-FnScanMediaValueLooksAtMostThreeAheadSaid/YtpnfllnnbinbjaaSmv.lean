/- FnScanMediaValueLooksAtMostThreeAhead returns true at every argument (no condition). -/
import Derived.Test.YtpnfllnnbinbjaaBld
import Derived.Deep.DeepCutAuto
import Derived.WalkSpells
namespace Go.Proofs.Ytpnfllnnbinbjaa.fnScanMediaValueLooksAtMostThreeAhead
open Go.ChangeShapes Go.WideShapes Go.ChangeAt Go.RowKit
open Go.ChangeMaps (open_string shut_string)
set_option linter.unusedVariables false
set_option linter.unusedSimpArgs false
theorem own : ownKnob Try.prog.godebug = none := by kernel_rfl
theorem laidOut : laidOutB Try.prog = true := by kernel_rfl

/-- WHAT THE WALK IS TOLD OF A SLICE OF INTEGERS THAT CAME IN: it is nil; or it leads to a row of 'cap' cells, the numbers 'zs' (the first 'len' are its elements, the rest its spare room), each fitting its kind. -/
def IsRow (k : IntKind) (w : World) (a : Option Addr) (len cap : Nat) (zs : List Int) : Prop :=
  (a = none ∧ len = 0 ∧ cap = 0 ∧ zs = []) ∨
  ∃ x, a = some x ∧ len ≤ cap ∧ cap ≤ maxLen ∧ zs.length = cap ∧ (∀ i, i < zs.length → w.cell? (x.add i) = some (.int k (zs.getD i 0))) ∧ ∀ n ∈ zs, (Lit.int k n).wf = true

theorem row_of {k : IntKind} {w : World} {a : Option Addr} {len cap : Nat} {zs : List Int} (h : IsRow k w a len cap zs) : Row k w a len (fun i => zs.getD i 0) ∧ len ≤ maxLen ∧ len ≤ cap ∧ cap ≤ maxLen ∧ (a = none → cap = 0) := by
  rcases h with ⟨rfl, rfl, rfl, rfl⟩ | ⟨x, rfl, h1, h2, h3, h4, h5⟩
  · exact ⟨fun i hi => by omega, by unfold maxLen; omega, by omega, by unfold maxLen; omega, fun _ => rfl⟩
  · exact ⟨fun i hi => ⟨x, rfl, h4 i (by omega)⟩, by omega, h1, h2, fun h => by cases h⟩
set_option maxRecDepth 100000 in
set_option maxHeartbeats 4000000 in
theorem same31_c (tx : ByteArray) (a b c d e : Int) (w : World) :
    Calls Try.prog 31 #[(⟨.pointer none, tx, a, b, c, d, e⟩ : Tk).val, (⟨.pointer none, tx, a, b, c, d, e⟩ : Tk).val] w fun E w' => E = .returned (.bool true) ∧ Below w.heap.size w w' := by
  go_enter Try.func31, Try.ntmps31
  go_wp2
  go_ret
  exact ⟨rfl, ((Below.refl _ _).alloc (Nat.le_refl _) _).alloc (by simp) _⟩
set_option maxRecDepth 100000 in
set_option maxHeartbeats 4000000 in
theorem same19_c (t : Tk) (ht : t.ch = .pointer none) (w : World) :
    Calls Try.prog 19 #[t.val, t.val] w fun E w' => E = .returned (.bool true) ∧ Below w.heap.size w w' := by
  obtain ⟨ch, tx, a, b, c, d, e⟩ := t
  cases ht
  go_enter Try.func19, Try.ntmps19
  go_wp2
  go_ret
  exact ⟨rfl, ((((Below.refl _ _).alloc (Nat.le_refl _) _).alloc (by simp) _).alloc (by simp; omega) _).alloc (by simp; omega) _⟩
def SomeBool (w : World) (e : Ending) (w' : World) : Prop := ∃ b : Bool, e = .returned (.bool b) ∧ w = w'
set_option maxRecDepth 100000 in
set_option maxHeartbeats 4000000 in
theorem bytes16_c (A0 A1 : Option Addr) (n c0 n1 c1 : Nat) (tx : ByteArray) (w : World) (h0 : n ≤ maxLen) (h1 : n1 ≤ maxLen) (h2 : tx.size ≤ maxLen) :
    Calls Try.prog 16 #[.slice A0 n c0, .slice A1 n1 c1, .string tx] w (SomeBool w) := by
  unfold maxLen at h0 h1 h2
  go_enter Try.func16, Try.ntmps16
  go_wp2
  all_goals (go_ret; exact ⟨_, rfl, rfl⟩)
theorem sv_min (n : Nat) (F : Nat → Tk) : sv (min n 3) F = sv n F := by
  by_cases h : n ≤ 3
  · rw [Nat.min_eq_left h]
  · rw [Nat.min_eq_right (by omega)]
    unfold sv
    simp only [show (1 ≤ n) = True from by simp; omega, show (3 ≤ n) = True from by simp; omega, show (1 ≤ 3) = True from by simp, show (3 ≤ 3) = True from by simp]
set_option maxRecDepth 100000 in
set_option maxHeartbeats 4000000 in
theorem scan18_c (A : Option Addr) (T o n c : Nat) (F : Nat → Tk) (w : World) (hA : 0 < n → A = some ⟨T, o, none⟩) (hA0 : A = none → c = 0) (hc : n ≤ c) (hm : c ≤ 9223372036854775807) (h : TokB w T o n F) :
    Calls Try.prog 18 #[.slice A n c] w (ScanP A T o n c F (sv n F) w) := by
  have C := Lib.hid (scan_c A T o n c F w hA hA0 hc hm h)
  clear h hA hA0
  go_enter Try.func18, Try.ntmps18
  go_wp2_with (go_at_call 30; (with_reducible refine C.out.mono ?_); rintro e w' ⟨A', rfl, h1, h2, h3⟩; replace h1 := Lib.hid h1; replace h2 := Lib.hid h2; replace h3 := Lib.hid h3)
  go_ret2
  exact ⟨A', rfl, h1.out, h2.out, h3.out⟩
set_option maxRecDepth 100000 in
set_option maxHeartbeats 4000000 in
theorem main (A0 A1 : Option Addr) (n c0 n1 c1 : Nat) (tx : ByteArray) (K S : Nat → Int) (w : World) (m0 : n ≤ maxLen) (m1 : n1 ≤ maxLen) (m2 : tx.size ≤ maxLen) (mc : n ≤ c0) (mc' : c0 ≤ maxLen) (hA0 : A0 = none → c0 = 0) (r0 : Row .u8 w A0 n K) (r1 : Row .u8 w A1 n1 S) :
    Calls Try.prog 5 #[.slice A0 n c0, .slice A1 n1 c1, .string tx] w fun e w' => e = .returned (.bool true) ∧ Below w.heap.size w w' := by
  have C16 := Lib.hid (bytes16_c A0 A1 n c0 n1 c1 tx w m0 m1 m2)
  unfold maxLen at m0 m1 m2 mc'
  have R0 := Lib.hid r0; have R1 := Lib.hid r1; have HA0 := Lib.hid hA0
  clear r0 r1 hA0
  by_cases s0 : 65536 < n
  · go_enter Try.func5, Try.ntmps5
    go_wp2_with (go_at_call 16; (with_reducible refine C16.out.mono ?_); rintro e w' ⟨b, rfl, rfl⟩; cases b)
    all_goals (go_ret; exact ⟨rfl, Below.refl _ _⟩)
  · by_cases s1 : 65536 < n1
    · go_enter Try.func5, Try.ntmps5
      go_wp2_with (go_at_call 16; (with_reducible refine C16.out.mono ?_); rintro e w' ⟨b, rfl, rfl⟩; cases b)
      all_goals (go_ret; exact ⟨rfl, Below.refl _ _⟩)
    · by_cases s2 : 65536 < tx.size
      · go_enter Try.func5, Try.ntmps5
        go_wp2_with (go_at_call 16; (with_reducible refine C16.out.mono ?_); rintro e w' ⟨b, rfl, rfl⟩; cases b)
        all_goals (go_ret; exact ⟨rfl, Below.refl _ _⟩)
      · have C17 := Lib.hid (build17_c A0 A1 n c0 n1 c1 tx K S w (by omega) (by omega) R0.out R1.out)
        obtain ⟨s, hs⟩ : ∃ s, s = sv n (bF tx K S n1) := ⟨_, rfl⟩
        have hs3 : s ≤ 3 := by have := sv_or n (bF tx K S n1); omega
        have hsn : s ≤ n := by have := sv_le n (bF tx K S n1); omega
        have HS := Lib.hid hs
        clear hs
        by_cases s3 : 3 < n
        · have HS2 : Hid (s = sv 3 (bF tx K S n1)) := Lib.hid (by have := sv_min n (bF tx K S n1); rw [Nat.min_eq_right (by omega)] at this; rw [this]; exact HS.out)
          obtain ⟨x0, hx, -⟩ := R0.out 0 (by omega)
          subst hx
          go_enter Try.func5, Try.ntmps5
          go_upto_region 13 with (first | (go_at_call 16; (with_reducible refine C16.out.mono ?_); rintro e w' ⟨b, rfl, rfl⟩; cases b) | (go_at_call 17; (with_reducible refine C17.out.mono ?_); rintro e w1 ⟨T, rfl, hT0, hT1, htk, hb⟩; replace hb := Lib.hid hb; replace htk := Lib.hid htk))
          any_goals (go_ret; exact ⟨rfl, Below.refl _ _⟩)
          have C17b := Lib.hid (build17_c (some x0) A1 3 c0 n1 c1 tx K S w1 (by omega) (by omega) (fun i hi => (R0.out.after hb.out) i (by omega)) (R1.out.after hb.out))
          go_upto_region 14 with (go_at_call 17; (with_reducible refine C17b.out.mono ?_); rintro e w2 ⟨T2, rfl, hS0, hS1, htk2, hb2⟩; replace htk := Lib.hid (htk.out.after hb2); replace htk2 := Lib.hid htk2; replace hb := Lib.hid (hb.out.trans (hb2.mono hb.out.size)); clear hb2)
          clear C17b
          have C18 := Lib.hid (scan18_c (some ⟨T, 0, none⟩) T 0 n n (bF tx K S n1) w2 (fun _ => rfl) (fun h => by cases h) (Nat.le_refl _) (by omega) htk.out)
          rw [← HS.out] at C18
          go_upto_region 15 with (go_at_call 18; (with_reducible refine C18.out.mono ?_); rintro e w3 ⟨A', rfl, -, htk3, hfr⟩; have htk4 := Lib.hid (hfr.tok htk2.out (.inl (by omega))); replace htk3 := Lib.hid htk3; replace hb := Lib.hid (hb.out.trans (hfr.below _ hT0)); clear hfr)
          clear C18 htk htk2
          have C18 := Lib.hid (scan18_c (some ⟨T2, 0, none⟩) T2 0 3 3 (bF tx K S n1) w3 (fun _ => rfl) (fun h => by cases h) (Nat.le_refl _) (by omega) htk4.out)
          rw [← HS2.out] at C18
          go_wp2_with (go_at_call 18; (with_reducible refine C18.out.mono ?_); rintro e w4 ⟨A'', rfl, -, htk5, hfr⟩; replace htk3 := Lib.hid (hfr.tok htk3.out (.inl (by omega))); replace htk5 := Lib.hid htk5; replace hb := Lib.hid (hb.out.trans (hfr.below _ (by have := hb.out.size; omega))); clear hfr)
          clear C18 htk4
          go_loopw [14] (fun i wr => ∃ k : Nat, k ≤ s ∧ i = .int .i64 k ∧ Below w4.heap.size w4 wr) (fun i _ => s - (intOf i).toNat)
          case atStart => exact ⟨0, by omega, rfl, Below.refl _ _⟩
          case round =>
            obtain ⟨k, hk, rfl, hW⟩ := hrel
            by_cases hlt : k < s
            · obtain ⟨⟨q0, q1, q2, q3, q4, q5, q6⟩, -⟩ := (htk3.out.after hW) k (by omega)
              obtain ⟨⟨p0, p1, p2, p3, p4, p5, p6⟩, -⟩ := (htk5.out.after hW) k (by omega)
              rw [Nat.zero_add] at q0 q1 q2 q3 q4 q5 q6 p0 p1 p2 p3 p4 p5 p6
              have hch : (trim s (bF tx K S n1) k).ch = .pointer none := by unfold trim bF; split <;> (try split) <;> rfl
              have C19 := Lib.hid (same19_c (trim s (bF tx K S n1) k) hch)
              clear hch
              generalize trim s (bF tx K S n1) k = t at *
              have g0 := fun d os => cell_regrown q0 d os
              have g1 := fun d os => cell_regrown q1 d os
              have g2 := fun d os => cell_regrown q2 d os
              have g3 := fun d os => cell_regrown q3 d os
              have g4 := fun d os => cell_regrown q4 d os
              have g5 := fun d os => cell_regrown q5 d os
              have g6 := fun d os => cell_regrown q6 d os
              have f0 := fun d os => cell_regrown p0 d os
              have f1 := fun d os => cell_regrown p1 d os
              have f2 := fun d os => cell_regrown p2 d os
              have f3 := fun d os => cell_regrown p3 d os
              have f4 := fun d os => cell_regrown p4 d os
              have f5 := fun d os => cell_regrown p5 d os
              have f6 := fun d os => cell_regrown p6 d os
              have i0 : (0 : Int) ≤ (k : Int) := by omega
              have i1 : (k : Int) < (n : Int) := by omega
              have i2 : (k : Int) < (s : Int) := by omega
              have i3 : (k : Int) < (3 : Int) := by omega
              go_wp2
              refine drawn_tail 9 (by kernel_rfl) (by kernel_rfl) (by kernel_rfl) (fun Q hQ => ?_)
              simp only [List.take_succ_cons, List.take_zero, List.drop_succ_cons, List.drop_zero]
              repeat (quiet_step (exact Calls.regrown_of (C19.out _)))
              refine wpQuiet_nil ?_
              clear g0 g1 g2 g3 g4 g5 g6 f0 f1 f2 f3 f4 f5 f6 q0 q1 q2 q3 q4 q5 q6 p0 p1 p2 p3 p4 p5 p6
              intro W2 hw
              have hW2 : Below wr.heap.size wr W2 := by
                obtain ⟨⟨d, os⟩, rfl⟩ := hw
                exact below_regrown wr d os
              clear hw
              go_wp2
              exact ⟨⟨k + 1, by omega, by go_num, hW.trans (hW2.mono hW.size)⟩, by simp [intOf]; omega⟩
            · obtain rfl : k = s := by omega
              go_wp2
              go_ret
              exact ⟨rfl, hb.out.trans (hW.mono hb.out.size)⟩
        · have HS2 : Hid (s = sv n (bF tx K S n1)) := HS
          cases A0 with
          | none =>
            obtain rfl : c0 = 0 := HA0.out rfl
            obtain rfl : n = 0 := by omega
            go_enter Try.func5, Try.ntmps5
            go_upto_region 13 with (first | (go_at_call 16; (with_reducible refine C16.out.mono ?_); rintro e w' ⟨b, rfl, rfl⟩; cases b) | (go_at_call 17; (with_reducible refine C17.out.mono ?_); rintro e w1 ⟨T, rfl, hT0, hT1, htk, hb⟩; replace hb := Lib.hid hb; replace htk := Lib.hid htk))
            any_goals (go_ret; exact ⟨rfl, Below.refl _ _⟩)
            have C17b := Lib.hid (build17_c none A1 0 0 n1 c1 tx K S w1 (by omega) (by omega) (fun i hi => (R0.out.after hb.out) i (by omega)) (R1.out.after hb.out))
            go_upto_region 14 with (go_at_call 17; (with_reducible refine C17b.out.mono ?_); rintro e w2 ⟨T2, rfl, hS0, hS1, htk2, hb2⟩; replace htk := Lib.hid (htk.out.after hb2); replace htk2 := Lib.hid htk2; replace hb := Lib.hid (hb.out.trans (hb2.mono hb.out.size)); clear hb2)
            clear C17b
            have C18 := Lib.hid (scan18_c (some ⟨T, 0, none⟩) T 0 0 0 (bF tx K S n1) w2 (fun _ => rfl) (fun h => by cases h) (Nat.le_refl _) (by omega) htk.out)
            rw [← HS.out] at C18
            go_upto_region 15 with (go_at_call 18; (with_reducible refine C18.out.mono ?_); rintro e w3 ⟨A', rfl, -, htk3, hfr⟩; have htk4 := Lib.hid (hfr.tok htk2.out (.inl (by omega))); replace htk3 := Lib.hid htk3; replace hb := Lib.hid (hb.out.trans (hfr.below _ hT0)); clear hfr)
            clear C18 htk htk2
            have C18 := Lib.hid (scan18_c (some ⟨T2, 0, none⟩) T2 0 0 0 (bF tx K S n1) w3 (fun _ => rfl) (fun h => by cases h) (Nat.le_refl _) (by omega) htk4.out)
            rw [← HS2.out] at C18
            go_wp2_with (go_at_call 18; (with_reducible refine C18.out.mono ?_); rintro e w4 ⟨A'', rfl, -, htk5, hfr⟩; replace htk3 := Lib.hid (hfr.tok htk3.out (.inl (by omega))); replace htk5 := Lib.hid htk5; replace hb := Lib.hid (hb.out.trans (hfr.below _ (by have := hb.out.size; omega))); clear hfr)
            clear C18 htk4
            go_loopw [14] (fun i wr => ∃ k : Nat, k ≤ s ∧ i = .int .i64 k ∧ Below w4.heap.size w4 wr) (fun i _ => s - (intOf i).toNat)
            case atStart => exact ⟨0, by omega, rfl, Below.refl _ _⟩
            case round =>
              obtain ⟨k, hk, rfl, hW⟩ := hrel
              by_cases hlt : k < s
              · obtain ⟨⟨q0, q1, q2, q3, q4, q5, q6⟩, -⟩ := (htk3.out.after hW) k (by omega)
                obtain ⟨⟨p0, p1, p2, p3, p4, p5, p6⟩, -⟩ := (htk5.out.after hW) k (by omega)
                rw [Nat.zero_add] at q0 q1 q2 q3 q4 q5 q6 p0 p1 p2 p3 p4 p5 p6
                have hch : (trim s (bF tx K S n1) k).ch = .pointer none := by unfold trim bF; split <;> (try split) <;> rfl
                have C19 := Lib.hid (same19_c (trim s (bF tx K S n1) k) hch)
                clear hch
                generalize trim s (bF tx K S n1) k = t at *
                have g0 := fun d os => cell_regrown q0 d os
                have g1 := fun d os => cell_regrown q1 d os
                have g2 := fun d os => cell_regrown q2 d os
                have g3 := fun d os => cell_regrown q3 d os
                have g4 := fun d os => cell_regrown q4 d os
                have g5 := fun d os => cell_regrown q5 d os
                have g6 := fun d os => cell_regrown q6 d os
                have f0 := fun d os => cell_regrown p0 d os
                have f1 := fun d os => cell_regrown p1 d os
                have f2 := fun d os => cell_regrown p2 d os
                have f3 := fun d os => cell_regrown p3 d os
                have f4 := fun d os => cell_regrown p4 d os
                have f5 := fun d os => cell_regrown p5 d os
                have f6 := fun d os => cell_regrown p6 d os
                have i0 : (0 : Int) ≤ (k : Int) := by omega
                have i1 : (k : Int) < (0 : Int) := by omega
                have i2 : (k : Int) < (s : Int) := by omega
                have i3 : (k : Int) < (0 : Int) := by omega
                go_wp2
                refine drawn_tail 9 (by kernel_rfl) (by kernel_rfl) (by kernel_rfl) (fun Q hQ => ?_)
                simp only [List.take_succ_cons, List.take_zero, List.drop_succ_cons, List.drop_zero]
                repeat (quiet_step (exact Calls.regrown_of (C19.out _)))
                refine wpQuiet_nil ?_
                clear g0 g1 g2 g3 g4 g5 g6 f0 f1 f2 f3 f4 f5 f6 q0 q1 q2 q3 q4 q5 q6 p0 p1 p2 p3 p4 p5 p6
                intro W2 hw
                have hW2 : Below wr.heap.size wr W2 := by
                  obtain ⟨⟨d, os⟩, rfl⟩ := hw
                  exact below_regrown wr d os
                clear hw
                go_wp2
                exact ⟨⟨k + 1, by omega, by go_num, hW.trans (hW2.mono hW.size)⟩, by simp [intOf]; omega⟩
              · obtain rfl : k = s := by omega
                go_wp2
                go_ret
                exact ⟨rfl, hb.out.trans (hW.mono hb.out.size)⟩
          | some x0 =>
            go_enter Try.func5, Try.ntmps5
            go_upto_region 13 with (first | (go_at_call 16; (with_reducible refine C16.out.mono ?_); rintro e w' ⟨b, rfl, rfl⟩; cases b) | (go_at_call 17; (with_reducible refine C17.out.mono ?_); rintro e w1 ⟨T, rfl, hT0, hT1, htk, hb⟩; replace hb := Lib.hid hb; replace htk := Lib.hid htk))
            any_goals (go_ret; exact ⟨rfl, Below.refl _ _⟩)
            have C17b := Lib.hid (build17_c (some x0) A1 n c0 n1 c1 tx K S w1 (by omega) (by omega) (fun i hi => (R0.out.after hb.out) i (by omega)) (R1.out.after hb.out))
            go_upto_region 14 with (go_at_call 17; (with_reducible refine C17b.out.mono ?_); rintro e w2 ⟨T2, rfl, hS0, hS1, htk2, hb2⟩; replace htk := Lib.hid (htk.out.after hb2); replace htk2 := Lib.hid htk2; replace hb := Lib.hid (hb.out.trans (hb2.mono hb.out.size)); clear hb2)
            clear C17b
            have C18 := Lib.hid (scan18_c (some ⟨T, 0, none⟩) T 0 n n (bF tx K S n1) w2 (fun _ => rfl) (fun h => by cases h) (Nat.le_refl _) (by omega) htk.out)
            rw [← HS.out] at C18
            go_upto_region 15 with (go_at_call 18; (with_reducible refine C18.out.mono ?_); rintro e w3 ⟨A', rfl, -, htk3, hfr⟩; have htk4 := Lib.hid (hfr.tok htk2.out (.inl (by omega))); replace htk3 := Lib.hid htk3; replace hb := Lib.hid (hb.out.trans (hfr.below _ hT0)); clear hfr)
            clear C18 htk htk2
            have C18 := Lib.hid (scan18_c (some ⟨T2, 0, none⟩) T2 0 n n (bF tx K S n1) w3 (fun _ => rfl) (fun h => by cases h) (Nat.le_refl _) (by omega) htk4.out)
            rw [← HS2.out] at C18
            go_wp2_with (go_at_call 18; (with_reducible refine C18.out.mono ?_); rintro e w4 ⟨A'', rfl, -, htk5, hfr⟩; replace htk3 := Lib.hid (hfr.tok htk3.out (.inl (by omega))); replace htk5 := Lib.hid htk5; replace hb := Lib.hid (hb.out.trans (hfr.below _ (by have := hb.out.size; omega))); clear hfr)
            clear C18 htk4
            go_loopw [14] (fun i wr => ∃ k : Nat, k ≤ s ∧ i = .int .i64 k ∧ Below w4.heap.size w4 wr) (fun i _ => s - (intOf i).toNat)
            case atStart => exact ⟨0, by omega, rfl, Below.refl _ _⟩
            case round =>
              obtain ⟨k, hk, rfl, hW⟩ := hrel
              by_cases hlt : k < s
              · obtain ⟨⟨q0, q1, q2, q3, q4, q5, q6⟩, -⟩ := (htk3.out.after hW) k (by omega)
                obtain ⟨⟨p0, p1, p2, p3, p4, p5, p6⟩, -⟩ := (htk5.out.after hW) k (by omega)
                rw [Nat.zero_add] at q0 q1 q2 q3 q4 q5 q6 p0 p1 p2 p3 p4 p5 p6
                have hch : (trim s (bF tx K S n1) k).ch = .pointer none := by unfold trim bF; split <;> (try split) <;> rfl
                have C19 := Lib.hid (same19_c (trim s (bF tx K S n1) k) hch)
                clear hch
                generalize trim s (bF tx K S n1) k = t at *
                have g0 := fun d os => cell_regrown q0 d os
                have g1 := fun d os => cell_regrown q1 d os
                have g2 := fun d os => cell_regrown q2 d os
                have g3 := fun d os => cell_regrown q3 d os
                have g4 := fun d os => cell_regrown q4 d os
                have g5 := fun d os => cell_regrown q5 d os
                have g6 := fun d os => cell_regrown q6 d os
                have f0 := fun d os => cell_regrown p0 d os
                have f1 := fun d os => cell_regrown p1 d os
                have f2 := fun d os => cell_regrown p2 d os
                have f3 := fun d os => cell_regrown p3 d os
                have f4 := fun d os => cell_regrown p4 d os
                have f5 := fun d os => cell_regrown p5 d os
                have f6 := fun d os => cell_regrown p6 d os
                have i0 : (0 : Int) ≤ (k : Int) := by omega
                have i1 : (k : Int) < (n : Int) := by omega
                have i2 : (k : Int) < (s : Int) := by omega
                have i3 : (k : Int) < ((n : Nat) : Int) := by omega
                go_wp2
                refine drawn_tail 9 (by kernel_rfl) (by kernel_rfl) (by kernel_rfl) (fun Q hQ => ?_)
                simp only [List.take_succ_cons, List.take_zero, List.drop_succ_cons, List.drop_zero]
                repeat (quiet_step (exact Calls.regrown_of (C19.out _)))
                refine wpQuiet_nil ?_
                clear g0 g1 g2 g3 g4 g5 g6 f0 f1 f2 f3 f4 f5 f6 q0 q1 q2 q3 q4 q5 q6 p0 p1 p2 p3 p4 p5 p6
                intro W2 hw
                have hW2 : Below wr.heap.size wr W2 := by
                  obtain ⟨⟨d, os⟩, rfl⟩ := hw
                  exact below_regrown wr d os
                clear hw
                go_wp2
                exact ⟨⟨k + 1, by omega, by go_num, hW.trans (hW2.mono hW.size)⟩, by simp [intOf]; omega⟩
              · obtain rfl : k = s := by omega
                go_wp2
                go_ret
                exact ⟨rfl, hb.out.trans (hW.mono hb.out.size)⟩
theorem walk (a0 : Option Addr) (len0 cap0 : Nat) (z0 : List Int) (a1 : Option Addr) (len1 cap1 : Nat) (z1 : List Int) (a2 : ByteArray) (w : World) (w0 : IsRow .u8 w a0 len0 cap0 z0) (w1 : IsRow .u8 w a1 len1 cap1 z1) (w2 : a2.size ≤ maxLen) :
    Calls Try.prog 5 #[.slice a0 len0 cap0, .slice a1 len1 cap1, .string a2] w fun e w' => e = .returned (.bool true) ∧ Below w.heap.size w w' := by
  obtain ⟨r0, h0, h1, h2, h3⟩ := row_of w0
  obtain ⟨r1, h4, h5, h6, h7⟩ := row_of w1
  exact main a0 a1 len0 cap0 len1 cap1 a2 _ _ w h0 h4 w2 h1 h2 h3 r0 r1
/-! ### THE ROW's STEP: WRITTEN OUT: LEAVE IT -/
set_option maxRecDepth 100000 in
theorem lifted (os : Os) (started : os.Started) (H : Type) (enc : TypeId × Value → H) :
    ReturnsInHanded {} Try.checked os 5 .any (Rows.fnScanMediaValueLooksAtMostThreeAheadSpec.pre6 enc Try.prog Try.f5 Rows.fnScanMediaValueLooksAtMostThreeAheadRow.domain false) (Rows.fnScanMediaValueLooksAtMostThreeAheadSpec.post enc Try.prog Try.f5 false true false false) := by
  refine returnsInHanded_of_change (C := Try.checked) own started (by kernel_rfl) Try.func5
    (ChangeSpec.witness6 (enc := enc) (C := Try.checked) false ⟨#[], #[.slice none 0 0, .slice none 0 0, .string ByteArray.empty], []⟩ 8 (by kernel_rfl) (by kernel_rfl) (by kernel_rfl) (by kernel_rfl)) ?_
  intro W base args ds gs before hval0 hW hcnd _
  have hval : ∀ (j : Nat) t v, Try.f5.params[j]? = some t → args[j]? = some v → Value.okWide Try.prog W .any base t v := hval0
  have hW' := hW
  obtain ⟨p, q, hA0, hV, rfl, hfz, hnd⟩ := hW
  have hA : DataW.TrodAll enc Try.prog W 0 (fun _ => true) true Try.f5.params.toList args.toList ds p := hA0
  rw [Try.params5] at hA hval
  obtain ⟨v0, vs0, d0, ds0, p0, q0, hargs, rfl, rfl, h0, r0⟩ := trodAll_cons hA
  obtain ⟨v1, vs1, d1, ds1, p1, q1, rfl, rfl, rfl, h1, r1⟩ := trodAll_cons r0
  obtain ⟨v2, vs2, d2, ds2, p2, q2, rfl, rfl, rfl, h2, r2⟩ := trodAll_cons r1
  obtain ⟨rfl, rfl, rfl⟩ := trodAll_nil r2
  obtain rfl : args = #[v0, v1, v2] := by cases args; simp_all
  obtain ⟨rfl, rfl⟩ := trodVars_none hV
  obtain ⟨a0, len0, cap0, rfl⟩ := okWide_slice Try.underlying31 (hval 0 31 v0 rfl rfl)
  have k0 := h0
  have lt0 : ∀ x ∈ p0, x.block < W.heap.size := by obtain ⟨m, hm⟩ := k0; exact DataW.trod_lt m _ _ _ hm
  obtain ⟨z0, w0⟩ : ∃ zs, IsRow .u8 W a0 len0 cap0 zs := by
    obtain ⟨fuel, hf⟩ := h0
    rcases open_ints Try.underlying31 Try.underlying5 (by kernel_rfl) hf with ⟨hcs, _⟩ | ⟨x, l, c, zs, hcs, _, hl, hm, hz, _, hcell, hwz⟩
    · simp [Value.cells] at hcs
      obtain ⟨rfl, rfl, rfl⟩ := hcs
      exact ⟨[], .inl ⟨rfl, rfl, rfl, rfl⟩⟩
    · simp [Value.cells] at hcs
      obtain ⟨rfl, rfl, rfl⟩ := hcs
      exact ⟨zs, .inr ⟨_, rfl, hl, hm, by simpa using hz, hcell, hwz⟩⟩
  obtain ⟨a1, len1, cap1, rfl⟩ := okWide_slice Try.underlying31 (hval 1 31 v1 rfl rfl)
  have k1 := h1
  have lt1 : ∀ x ∈ p1, x.block < W.heap.size := by obtain ⟨m, hm⟩ := k1; exact DataW.trod_lt m _ _ _ hm
  obtain ⟨z1, w1⟩ : ∃ zs, IsRow .u8 W a1 len1 cap1 zs := by
    obtain ⟨fuel, hf⟩ := h1
    rcases open_ints Try.underlying31 Try.underlying5 (by kernel_rfl) hf with ⟨hcs, _⟩ | ⟨x, l, c, zs, hcs, _, hl, hm, hz, _, hcell, hwz⟩
    · simp [Value.cells] at hcs
      obtain ⟨rfl, rfl, rfl⟩ := hcs
      exact ⟨[], .inl ⟨rfl, rfl, rfl, rfl⟩⟩
    · simp [Value.cells] at hcs
      obtain ⟨rfl, rfl, rfl⟩ := hcs
      exact ⟨zs, .inr ⟨_, rfl, hl, hm, by simpa using hz, hcell, hwz⟩⟩
  obtain ⟨a2, rfl, rfl, rfl, w2⟩ := open_string Try.underlying9 (hval 2 9 v2 rfl rfl) h2
  clear hA0 hval0
  refine (walk a0 len0 cap0 z0 a1 len1 cap1 z1 a2 W w0 w1 w2).mono fun e W' ⟨he, bel⟩ => ?_
  subst he
  exact ⟨_, rfl, _, _, _, [], _, [], hW', trodAll_mk1 (shut_bool Try.underlying4 _), (trodAll_cons_mk (Below.trod laidOut (by kernel_rfl) (of_decide_eq_true (by kernel_rfl)) k0 bel lt0) (trodAll_cons_mk (Below.trod laidOut (by kernel_rfl) (of_decide_eq_true (by kernel_rfl)) k1 bel lt1) (trodAll_cons_mk (shut_string Try.underlying9 w2) trodAll_mk0))), rfl, bel.frame _, fun h => by cases h⟩

theorem over : Rows.fnScanMediaValueLooksAtMostThreeAheadRow.holds Try.pinned (OpenSpec.ofChange Rows.fnScanMediaValueLooksAtMostThreeAheadSpec) :=
  OpenClaim.holds_of_wide 5 Try.f5 rfl rfl rfl rfl rfl rfl rfl ⟨rfl, rfl, rfl, rfl, rfl⟩ rfl rfl rfl rfl rfl (by kernel_rfl) Try.func5 (by kernel_rfl)
    (of_decide_eq_true (by kernel_rfl)) (by unfold Func.isWrapper; first | (rw [if_pos (by decide +kernel)]; kernel_rfl) | (rw [if_neg (by decide +kernel)]; exact ⟨rfl, rfl⟩))
    (fun os started H enc _ => lifted os started H enc)

/-- ████ THE STATEMENT ████ -/
theorem proved : Rows.FnScanMediaValueLooksAtMostThreeAheadSaid := over
#print axioms proved
end Go.Proofs.Ytpnfllnnbinbjaa.fnScanMediaValueLooksAtMostThreeAhead
