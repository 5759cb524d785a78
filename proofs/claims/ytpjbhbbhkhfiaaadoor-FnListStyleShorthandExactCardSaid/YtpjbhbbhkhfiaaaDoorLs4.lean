/- The list-style law's model, walked. -/
import Derived.Test.YtpjbhbbhkhfiaaaDoorLs3
set_option linter.unusedVariables false
set_option linter.unusedSimpArgs false
namespace Go.Proofs.YtpjbhbbhkhfiaaaDoor
open Go.RowKit
/-- a text as the law folds it -/
def fS (s : ByteArray) : ByteArray := strOfNums (foldZ (bl s))
abbrev wNone : List UInt8 := [110, 111, 110, 101]
abbrev wIn : List UInt8 := [105, 110, 115, 105, 100, 101]
abbrev wOut : List UInt8 := [111, 117, 116, 115, 105, 100, 101]
/-- the class of a token -/
def clF (kd : Int) (f : ByteArray) : Nat :=
  if kd = 36 then 0 else if kd = 37 then 1 else if kd = 27 then (if anyW imgW f = true then 2 else 3)
  else if kd = 29 then (if (f.toList == wNone) = true then 4 else if ((f.toList == wIn) || (f.toList == wOut)) = true then 5 else if (anyW widW f || anyW preW f) = true then 6 else 7) else 3
theorem clF_lt (kd : Int) (f : ByteArray) : clF kd f < 8 := by
  unfold clF
  repeat' split
  all_goals omega
theorem anyW_of (ws : List (List UInt8)) (f : ByteArray) (u : List UInt8) (h : (f.toList == u) = true) : anyW ws f = ws.any fun w => u == w := by
  unfold anyW; rw [eq_of_beq h]
theorem cl5_no {kd : Int} {f : ByteArray} (h : clF kd f = 5) : anyW widW f = false ∧ anyW preW f = false := by
  unfold clF at h
  repeat' split at h
  all_goals first | omega | skip
  rename_i q
  rw [Bool.or_eq_true] at q
  rcases q with q | q
  · rw [anyW_of _ _ _ q, anyW_of _ _ _ q]; decide +kernel
  · rw [anyW_of _ _ _ q, anyW_of _ _ _ q]; decide +kernel
theorem cl6_yes {kd : Int} {f : ByteArray} (h : clF kd f = 6) : (anyW widW f || anyW preW f) = true := by
  unfold clF at h
  repeat' split at h
  all_goals first | omega | assumption
theorem cl7_no {kd : Int} {f : ByteArray} (h : clF kd f = 7) : (anyW widW f || anyW preW f) = false := by
  unfold clF at h
  repeat' split at h
  all_goals first | omega | skip
  rename_i q
  simpa using q
theorem mS_cand {cl : Nat → Nat} (hc : ∀ i, cl i < 8) : ∀ n s, mS cl n = some s → (s.cs = 0 ∧ s.cd = -1) ∨ (1 ≤ s.cs ∧ 0 ≤ s.cd ∧ s.cd < n ∧ (cl s.cd.toNat = 5 ∨ cl s.cd.toNat = 6 ∨ cl s.cd.toNat = 7))
  | 0, s, h => by injection h with h; subst h; exact .inl ⟨rfl, rfl⟩
  | n + 1, s, h => by
    have h : (mS cl n).bind (mStep (cl n) n) = some s := h
    cases hm : mS cl n with
    | none => rw [hm] at h; cases h
    | some t =>
      rw [hm] at h
      have h : mStep (cl n) n t = some s := h
      have ih := mS_cand hc n t hm
      have hcn := hc n
      unfold mStep at h
      by_cases q0 : cl n = 0 ∨ cl n = 3
      · rw [if_pos q0] at h; cases h
      · rw [if_neg q0] at h
        by_cases q1 : cl n = 1 ∨ cl n = 2
        · rw [if_pos q1] at h; injection h with h; subst h; simp only; rcases ih with ih | ⟨a, b, c, d⟩
          · exact .inl ih
          · exact .inr ⟨a, b, by omega, d⟩
        · rw [if_neg q1] at h
          by_cases q2 : cl n = 4
          · rw [if_pos q2] at h; injection h with h; subst h; simp only; rcases ih with ih | ⟨a, b, c, d⟩
            · exact .inl ih
            · exact .inr ⟨a, b, by omega, d⟩
          · rw [if_neg q2] at h
            by_cases q3 : cl n = 5 ∧ t.ps = false
            · rw [if_pos q3] at h; injection h with h; subst h; simp only; rcases ih with ih | ⟨a, b, c, d⟩
              · exact .inl ih
              · exact .inr ⟨a, b, by omega, d⟩
            · rw [if_neg q3] at h; injection h with h; subst h
              unfold mAdd
              simp only
              right
              rcases ih with ⟨a, b⟩ | ⟨a, b, c, d⟩
              · rw [if_pos b]
                refine ⟨by omega, by omega, by omega, ?_⟩
                have e : ((n : Int)).toNat = n := by omega
                rw [e]; omega
              · rw [if_neg (by omega)]
                exact ⟨by omega, b, by omega, d⟩
theorem allow {im no : Nat} (h : ¬ 1 < im) (g : ¬ no > (if im = 0 then 1 else 0)) : (im = 0 ∧ no ≤ 1) ∨ (im = 1 ∧ no = 0) := by
  by_cases c : im = 0
  · rw [if_pos c] at g; omega
  · rw [if_neg c] at g; omega
theorem kdF_vals (c : Int) : kdF c = 36 ∨ kdF c = 37 ∨ kdF c = 27 ∨ kdF c = 39 ∨ kdF c = 29 := by
  unfold kdF
  repeat' split
  all_goals simp
theorem if567 (a b : Bool) : (if a = true then 5 else if b = true then 6 else 7) = 5 ∨ (if a = true then 5 else if b = true then 6 else 7) = 6 ∨ (if a = true then 5 else if b = true then 6 else 7) = 7 := by cases a <;> cases b <;> simp
theorem ret_m {a b : Int} (h : a = b) : Ending.returned (.int .i64 a) = .returned (.int .i64 b) := by rw [h]
set_option maxRecDepth 100000 in
set_option maxHeartbeats 4000000 in
theorem model8_c (A0 A1 : Option Addr) (n c0 n1 c1 : Nat) (K : Nat → Int) (X : Nat → ByteArray) (w : World) (cl : Nat → Nat) (hcl : ∀ i, cl i = clF (kdF (K i)) (fS (txF n1 X i))) (hk : Row .u8 w A0 n K) (hx : RowS w A1 n1 X) (hK : ∀ i, i < n → 0 ≤ K i ∧ K i ≤ 255) (hn1 : n1 ≤ 4096) (hs : ∀ i, (txF n1 X i).size ≤ 1048576) (l1 : 1 ≤ n) (l3 : n ≤ 3) :
    Calls Tryd.prog 8 #[.slice A0 n c0, .slice A1 n1 c1] w (fun e w' => e = .returned (.int .i64 (mR cl n)) ∧ Below w.heap.size w w') := by
  have hc8 : ∀ i, cl i < 8 := fun i => by rw [hcl]; exact clF_lt _ _
  have HK := Lib.hid hk
  have HX := Lib.hid hx
  have HKR := Lib.hid hK
  have HS := Lib.hid hs
  have HCL := Lib.hid hcl
  have H8 := Lib.hid hc8
  clear hk hx hK hs hcl hc8
  go_enter Tryd.func8, Tryd.ntmps8
  go_upto_region 9 with fail
  go_wp2
  go_loopw [6, 7, 8, 9, 10, 11] (fun a b c d e i wr => ∃ (k : Nat) (st : MS), k ≤ n ∧ i = .int .i64 k ∧ a = .int .i64 st.im ∧ b = .int .i64 st.no ∧ c = .bool st.ps ∧ d = .int .i64 st.cs ∧ e = .int .i64 st.cd ∧ Hid (mS cl k = some st) ∧ st.im ≤ k ∧ st.no ≤ k ∧ st.cs ≤ k ∧ -1 ≤ st.cd ∧ st.cd < k ∧ Below w.heap.size w wr) (fun _ _ _ _ _ i _ => n - (intOf i).toNat)
  case atStart => exact ⟨0, ⟨0, 0, false, 0, -1⟩, by omega, rfl, rfl, rfl, rfl, rfl, rfl, Lib.hid rfl, Nat.le_refl _, Nat.le_refl _, Nat.le_refl _, by decide, by decide, Below.refl _ _⟩
  case round =>
    obtain ⟨k, ⟨im, no, ps, cs, cd⟩, hkn, rfl, rfl, rfl, rfl, rfl, rfl, HM, b1, b2, b3, b4, b5, hB⟩ := hrel
    simp only at b1 b2 b3 b4 b5
    have HB := Lib.hid hB
    clear hB
    by_cases hlt : k < n
    · obtain ⟨x0, rfl, hc⟩ := HK.out k hlt
      have hcell := ac HB.out hc
      clear hc
      have CK := Lib.hid (fun w => kind_c (K k) w (HKR.out k hlt).1 (HKR.out k hlt).2)
      have CT := Lib.hid (text_c A1 n1 c1 X k wr (HX.out.after HB.out) (by omega) (by omega))
      have CF := Lib.hid (fun w => fold19_c (txF n1 X k) w (HS.out k))
      have NX : Hid (mS cl (k + 1) = mStep (cl k) k ⟨im, no, ps, cs, cd⟩) := Lib.hid (by show (mS cl k).bind _ = _; rw [HM.out]; rfl)
      have EC : Hid (cl k = clF (kdF (K k)) (fS (txF n1 X k))) := Lib.hid (HCL.out k)
      have hkd := kdF_vals (K k)
      generalize kdF (K k) = kd at *
      generalize K k = kk at *
      go_upto_region 14 with (first | (go_at_call 6; (with_reducible refine (CK.out _).mono ?_); rintro e u ⟨rfl, rfl⟩) | (go_at_call 7; (with_reducible refine CT.out.mono ?_); rintro e u ⟨rfl, rfl⟩) | (go_at_call 19; (with_reducible refine (CF.out _).mono ?_); rintro e w2 ⟨rfl, hb2⟩; replace hb2 := Lib.hid hb2))
      have HB2 := Lib.hid (HB.out.trans (hb2.out.mono HB.out.size))
      clear CK CT CF hcell hb2
      have ef : strOfNums (foldZ (bl (txF n1 X k))) = fS (txF n1 X k) := rfl
      rw [ef]
      clear ef
      generalize fS (txF n1 X k) = f at *
      have CI := Lib.hid (fun w => img_c f w)
      rcases hkd with rfl | rfl | rfl | rfl | rfl
      · have EE : mStep (cl k) k ⟨im, no, ps, cs, cd⟩ = none := by rw [EC.out]; rfl
        have EE' := Lib.hid EE
        clear EE
        go_wp2
        have EE := EE'.out
        go_ret
        exact ⟨ret_m (by unfold mR; rw [mS_none (NX.out.trans EE) (by omega : k + 1 ≤ n)]), HB2.out⟩
      · have EE' : Hid (mStep (cl k) k ⟨im, no, ps, cs, cd⟩ = some ⟨im + 1, no, ps, cs, cd⟩) := Lib.hid (by rw [EC.out]; rfl)
        go_wp2
        have EE := EE'.out
        go_roundw
        case rel => exact ⟨k + 1, ⟨im + 1, no, ps, cs, cd⟩, by omega, by go_num, by go_num, rfl, rfl, rfl, rfl, Lib.hid (NX.out.trans EE), by simp only; omega, by simp only; omega, by simp only; omega, by simp only; omega, by simp only; omega, HB2.out⟩
        case measure => simp [intOf]; omega
      · cases hb : anyW imgW f with
        | false =>
          have EE' : Hid (mStep (cl k) k ⟨im, no, ps, cs, cd⟩ = none) := Lib.hid (by rw [EC.out, show clF 27 f = 3 by unfold clF; rw [hb]; rfl]; rfl)
          rw [hb] at CI
          clear hb
          go_wp2_with (go_at_call 20; (with_reducible refine (CI.out _).mono ?_); rintro e u ⟨rfl, rfl⟩)
          have EE := EE'.out
          go_ret
          exact ⟨ret_m (by unfold mR; rw [mS_none (NX.out.trans EE) (by omega : k + 1 ≤ n)]), HB2.out⟩
        | true =>
          have EE' : Hid (mStep (cl k) k ⟨im, no, ps, cs, cd⟩ = some ⟨im + 1, no, ps, cs, cd⟩) := Lib.hid (by rw [EC.out, show clF 27 f = 2 by unfold clF; rw [hb]; rfl]; rfl)
          rw [hb] at CI
          clear hb
          go_wp2_with (go_at_call 20; (with_reducible refine (CI.out _).mono ?_); rintro e u ⟨rfl, rfl⟩)
          have EE := EE'.out
          go_roundw
          case rel => exact ⟨k + 1, ⟨im + 1, no, ps, cs, cd⟩, by omega, by go_num, by go_num, rfl, rfl, rfl, rfl, Lib.hid (NX.out.trans EE), by simp only; omega, by simp only; omega, by simp only; omega, by simp only; omega, by simp only; omega, HB2.out⟩
          case measure => simp [intOf]; omega
      · have EE' : Hid (mStep (cl k) k ⟨im, no, ps, cs, cd⟩ = none) := Lib.hid (by rw [EC.out]; rfl)
        go_wp2
        have EE := EE'.out
        go_ret
        exact ⟨ret_m (by unfold mR; rw [mS_none (NX.out.trans EE) (by omega : k + 1 ≤ n)]), HB2.out⟩
      · cases ha : (f.toList == wNone) with
        | true =>
          have EE' : Hid (mStep (cl k) k ⟨im, no, ps, cs, cd⟩ = some ⟨im, no + 1, ps, cs, cd⟩) := Lib.hid (by rw [EC.out, show clF 29 f = 4 by unfold clF; rw [ha]; rfl]; rfl)
          go_wp2
          have EE := EE'.out
          go_roundw
          case rel => exact ⟨k + 1, ⟨im, no + 1, ps, cs, cd⟩, by omega, by go_num, rfl, by go_num, rfl, rfl, rfl, Lib.hid (NX.out.trans EE), by simp only; omega, by simp only; omega, by simp only; omega, by simp only; omega, by simp only; omega, HB2.out⟩
          case measure => simp [intOf]; omega
        | false =>
          have hcl5 : clF 29 f = if ((f.toList == wIn) || (f.toList == wOut)) = true then 5 else if (anyW widW f || anyW preW f) = true then 6 else 7 := by unfold clF; rw [ha]; rfl
          have hns : clF 29 f = 5 ∨ clF 29 f = 6 ∨ clF 29 f = 7 := by rw [hcl5]; exact if567 _ _
          have HA := Lib.hid ha
          cases ps with
          | true =>
            have EE' : Hid (mStep (cl k) k ⟨im, no, true, cs, cd⟩ = some (mAdd ⟨im, no, true, cs, cd⟩ k)) := Lib.hid (by rw [EC.out]; unfold mStep; rcases hns with q | q | q <;> rw [q] <;> rfl)
            clear hns hcl5
            by_cases hcd : cd = -1
            · subst hcd
              have EE2 := EE'.out
              have EE3 : Hid (mStep (cl k) k ⟨im, no, true, cs, -1⟩ = some ⟨im, no, true, cs + 1, (k : Int)⟩) := Lib.hid EE2
              clear EE2 EE'
              go_wp2
              have EE := EE3.out
              go_roundw
              case rel => exact ⟨k + 1, ⟨im, no, true, cs + 1, (k : Int)⟩, by omega, by go_num, rfl, rfl, rfl, by go_num, rfl, Lib.hid (NX.out.trans EE), by simp only; omega, by simp only; omega, by simp only; omega, by simp only; omega, by simp only; omega, HB2.out⟩
              case measure => simp [intOf]; omega
            · have hcd' : (cd == -1) = false := by simpa using hcd
              have EE3 : Hid (mStep (cl k) k ⟨im, no, true, cs, cd⟩ = some ⟨im, no, true, cs + 1, cd⟩) := Lib.hid (by have := EE'.out; unfold mAdd at this; simp only [if_neg hcd] at this; exact this)
              clear EE' hcd
              go_wp2
              have EE := EE3.out
              go_roundw
              case rel => exact ⟨k + 1, ⟨im, no, true, cs + 1, cd⟩, by omega, by go_num, rfl, rfl, rfl, by go_num, rfl, Lib.hid (NX.out.trans EE), by simp only; omega, by simp only; omega, by simp only; omega, by simp only; omega, by simp only; omega, HB2.out⟩
              case measure => simp [intOf]; omega
          | false =>
            cases hi : (f.toList == wIn) with
            | true =>
              have EE' : Hid (mStep (cl k) k ⟨im, no, false, cs, cd⟩ = some ⟨im, no, true, cs, cd⟩) := Lib.hid (by rw [EC.out, hcl5, hi]; rfl)
              clear hns hcl5
              go_wp2
              have EE := EE'.out
              go_roundw
              case rel => exact ⟨k + 1, ⟨im, no, true, cs, cd⟩, by omega, by go_num, rfl, rfl, rfl, rfl, rfl, Lib.hid (NX.out.trans EE), by simp only; omega, by simp only; omega, by simp only; omega, by simp only; omega, by simp only; omega, HB2.out⟩
              case measure => simp [intOf]; omega
            | false =>
              cases ho : (f.toList == wOut) with
              | true =>
                have EE' : Hid (mStep (cl k) k ⟨im, no, false, cs, cd⟩ = some ⟨im, no, true, cs, cd⟩) := Lib.hid (by rw [EC.out, hcl5, hi, ho]; rfl)
                clear hns hcl5
                go_wp2
                have EE := EE'.out
                go_roundw
                case rel => exact ⟨k + 1, ⟨im, no, true, cs, cd⟩, by omega, by go_num, rfl, rfl, rfl, rfl, rfl, Lib.hid (NX.out.trans EE), by simp only; omega, by simp only; omega, by simp only; omega, by simp only; omega, by simp only; omega, HB2.out⟩
                case measure => simp [intOf]; omega
              | false =>
                have hns2 : clF 29 f = 6 ∨ clF 29 f = 7 := by rw [hcl5, hi, ho]; simp only [Bool.or_false, Bool.false_eq_true, if_false]; split <;> simp
                have EE' : Hid (mStep (cl k) k ⟨im, no, false, cs, cd⟩ = some (mAdd ⟨im, no, false, cs, cd⟩ k)) := Lib.hid (by rw [EC.out]; unfold mStep; rcases hns2 with q | q <;> rw [q] <;> rfl)
                clear hns hcl5 hns2
                by_cases hcd : cd = -1
                · subst hcd
                  have EE2 := EE'.out
                  have EE3 : Hid (mStep (cl k) k ⟨im, no, false, cs, -1⟩ = some ⟨im, no, false, cs + 1, (k : Int)⟩) := Lib.hid EE2
                  clear EE2 EE'
                  go_wp2
                  have EE := EE3.out
                  go_roundw
                  case rel => exact ⟨k + 1, ⟨im, no, false, cs + 1, (k : Int)⟩, by omega, by go_num, rfl, rfl, rfl, by go_num, rfl, Lib.hid (NX.out.trans EE), by simp only; omega, by simp only; omega, by simp only; omega, by simp only; omega, by simp only; omega, HB2.out⟩
                  case measure => simp [intOf]; omega
                · have hcd' : (cd == -1) = false := by simpa using hcd
                  have EE3 : Hid (mStep (cl k) k ⟨im, no, false, cs, cd⟩ = some ⟨im, no, false, cs + 1, cd⟩) := Lib.hid (by have := EE'.out; unfold mAdd at this; simp only [if_neg hcd] at this; exact this)
                  clear EE' hcd
                  go_wp2
                  have EE := EE3.out
                  go_roundw
                  case rel => exact ⟨k + 1, ⟨im, no, false, cs + 1, cd⟩, by omega, by go_num, rfl, rfl, rfl, by go_num, rfl, Lib.hid (NX.out.trans EE), by simp only; omega, by simp only; omega, by simp only; omega, by simp only; omega, by simp only; omega, HB2.out⟩
                  case measure => simp [intOf]; omega
    · obtain rfl : k = n := by omega
      have hcand := mS_cand H8.out k _ HM.out
      simp only at hcand
      have ER : Hid (mR cl k = mEnd cl ⟨im, no, ps, cs, cd⟩) := Lib.hid (by unfold mR; rw [HM.out])
      clear hlt
      by_cases g1 : 1 < im
      · have e : Hid (mEnd cl ⟨im, no, ps, cs, cd⟩ = -1) := Lib.hid (by unfold mEnd; rw [if_pos (.inl g1)])
        clear hcand
        go_wp2
        go_ret
        exact ⟨ret_m (by rw [ER.out, e.out]), HB.out⟩
      · by_cases g2 : cs = 1
        · subst g2
          rcases hcand with ⟨q, _⟩ | ⟨_, p1, p2, p3⟩
          · omega
          · obtain ⟨i, rfl⟩ : ∃ i : Nat, cd = i := ⟨cd.toNat, by omega⟩
            have p3' := Lib.hid p3
            clear p3 b4 b5
            by_cases g3 : no > (if im = 0 then 1 else 0)
            · have e : Hid (mEnd cl ⟨im, no, ps, 1, (i : Int)⟩ = -1) := Lib.hid (by unfold mEnd; rw [if_neg (by simp; omega), if_pos g3])
              by_cases g4 : im = 0
              · subst g4
                have g5 : 1 < no := g3
                clear g3
                go_wp2
                go_ret
                exact ⟨ret_m (by rw [ER.out, e.out]), HB.out⟩
              · rw [if_neg g4] at g3
                obtain rfl : im = 1 := by omega
                clear g4
                go_wp2
                go_ret
                exact ⟨ret_m (by rw [ER.out, e.out]), HB.out⟩
            · have e1 : Hid (mEnd cl ⟨im, no, ps, 1, (i : Int)⟩ = if cl i = 6 then -1 else (i : Int)) := Lib.hid (by unfold mEnd; rw [if_neg (by simp; omega), if_neg g3]; rfl)
              have CT := Lib.hid (text_c A1 n1 c1 X i wr (HX.out.after HB.out) (by omega) (by omega))
              have CF := Lib.hid (fun w => fold19_c (txF n1 X i) w (HS.out i))
              have ef : strOfNums (foldZ (bl (txF n1 X i))) = fS (txF n1 X i) := rfl
              rw [ef] at CF
              clear ef
              have hq : ((anyW widW (fS (txF n1 X i)) || anyW preW (fS (txF n1 X i))) = true ∧ cl i = 6) ∨ (anyW widW (fS (txF n1 X i)) = false ∧ anyW preW (fS (txF n1 X i)) = false ∧ cl i ≠ 6) := by
                have p3 := p3'.out
                simp only [Int.toNat_natCast] at p3
                have hce := HCL.out i
                rcases p3 with p | p | p
                · have := cl5_no (hce ▸ p); exact .inr ⟨this.1, this.2, by omega⟩
                · exact .inl ⟨cl6_yes (hce ▸ p), p⟩
                · have := cl7_no (hce ▸ p); simp at this; exact .inr ⟨this.1, this.2, by omega⟩
              generalize fS (txF n1 X i) = f at *
              have CW := Lib.hid (fun w => wid_c f w)
              have CP := Lib.hid (fun w => pre_c f w)
              have g3' := allow g1 g3
              clear g3 g1
              rcases hq with ⟨q1, q2⟩ | ⟨q1, q2, q3⟩
              · have e : Hid (mR cl k = -1) := Lib.hid (by rw [ER.out, e1.out, if_pos q2])
                clear ER e1 q2
                cases hw1 : anyW widW f with
                | true =>
                  rw [hw1] at CW
                  clear q1 hw1
                  rcases g3' with ⟨rfl, g4⟩ | ⟨rfl, rfl⟩
                  all_goals
                    go_wp2_with (first | (go_at_call 7; (with_reducible refine CT.out.mono ?_); rintro e' u ⟨rfl, rfl⟩) | (go_at_call 19; (with_reducible refine (CF.out _).mono ?_); rintro e' w2 ⟨rfl, hb2⟩; replace hb2 := Lib.hid hb2) | (go_at_call 21; (with_reducible refine (CW.out _).mono ?_); rintro e' u ⟨rfl, rfl⟩) | (go_at_call 22; (with_reducible refine (CP.out _).mono ?_); rintro e' u ⟨rfl, rfl⟩))
                    go_ret
                    exact ⟨ret_m e.out.symm, HB.out.trans (hb2.out.mono HB.out.size)⟩
                | false =>
                  rw [hw1, Bool.false_or] at q1
                  rw [hw1] at CW
                  rw [q1] at CP
                  clear q1 hw1
                  rcases g3' with ⟨rfl, g4⟩ | ⟨rfl, rfl⟩
                  all_goals
                    go_wp2_with (first | (go_at_call 7; (with_reducible refine CT.out.mono ?_); rintro e' u ⟨rfl, rfl⟩) | (go_at_call 19; (with_reducible refine (CF.out _).mono ?_); rintro e' w2 ⟨rfl, hb2⟩; replace hb2 := Lib.hid hb2) | (go_at_call 21; (with_reducible refine (CW.out _).mono ?_); rintro e' u ⟨rfl, rfl⟩) | (go_at_call 22; (with_reducible refine (CP.out _).mono ?_); rintro e' u ⟨rfl, rfl⟩))
                    go_ret
                    exact ⟨ret_m e.out.symm, HB.out.trans (hb2.out.mono HB.out.size)⟩
              · have e : Hid (mR cl k = (i : Int)) := Lib.hid (by rw [ER.out, e1.out, if_neg q3])
                rw [q1] at CW
                rw [q2] at CP
                clear ER e1 q1 q2 q3
                rcases g3' with ⟨rfl, g4⟩ | ⟨rfl, rfl⟩
                all_goals
                  go_wp2_with (first | (go_at_call 7; (with_reducible refine CT.out.mono ?_); rintro e' u ⟨rfl, rfl⟩) | (go_at_call 19; (with_reducible refine (CF.out _).mono ?_); rintro e' w2 ⟨rfl, hb2⟩; replace hb2 := Lib.hid hb2) | (go_at_call 21; (with_reducible refine (CW.out _).mono ?_); rintro e' u ⟨rfl, rfl⟩) | (go_at_call 22; (with_reducible refine (CP.out _).mono ?_); rintro e' u ⟨rfl, rfl⟩))
                  go_ret
                  exact ⟨ret_m e.out.symm, HB.out.trans (hb2.out.mono HB.out.size)⟩
        · have e : Hid (mEnd cl ⟨im, no, ps, cs, cd⟩ = -1) := Lib.hid (by unfold mEnd; rw [if_pos (.inr g2)])
          have g2' : ((cs : Int) != 1) = true := by simp; omega
          clear hcand
          go_wp2
          go_ret
          exact ⟨ret_m (by rw [ER.out, e.out]), HB.out⟩
end Go.Proofs.YtpjbhbbhkhfiaaaDoor
