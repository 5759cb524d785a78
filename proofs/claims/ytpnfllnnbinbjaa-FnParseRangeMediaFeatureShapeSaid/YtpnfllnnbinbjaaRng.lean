/- parseRangeMediaFeature. -/
import Derived.Test.YtpnfllnnbinbjaaZt
import Derived.Test.YtpnfllnnbinbjaaCmp
import Derived.RegionTactic
import Derived.Deep.DeepCutAuto
import Derived.ChangeAlike
set_option linter.unusedVariables false
set_option linter.unusedSimpArgs false
namespace Go.Proofs.Ytpnfllnnbinbjaa
open Go.RowKit
def SingleP (n : Nat) (w : World) (e : Ending) (w' : World) : Prop := ∃ (x : ByteArray) (y : Int) (b : Bool), (b = true → n = 1) ∧ e = .returned (.tuple #[.string x, .agg #[.int .i32 y], .bool b]) ∧ Below w.heap.size w w'
set_option maxRecDepth 100000 in
set_option maxHeartbeats 2000000 in
theorem single_n (A : Option Addr) (n c : Nat) (w : World) (h : n ≠ 1) (hn : n ≤ 1048576) : Calls Try.prog 33 #[.slice A n c] w (SingleP n w) := by
  have hq : ((n : Int) == 1) = false := by simp; omega
  go_enter Try.func33, Try.ntmps33
  go_wp2
  refine bodyPost_ret (v := .tuple #[.string ⟨#[]⟩, .agg #[.int .i32 0], .bool false]) (by simp [results, Try.results33, go_sem]) rfl ⟨_, _, _, (fun h => by cases h), rfl, ?_⟩
  exact ba _ _
set_option maxRecDepth 100000 in
set_option maxHeartbeats 2000000 in
theorem single_y (T o c : Nat) (t : Tk) (w : World) (h : TAt w T o t) : Calls Try.prog 33 #[.slice (some ⟨T, o, none⟩) 1 c] w (SingleP 1 w) := by
  obtain ⟨-, c1, c2, -, -, c5, -⟩ := h
  have a1 := al c1; have a2 := al c2; have a5 := al c5
  have hT : T < w.heap.size := block_lt_of_cell c1
  have n1 : ¬ T = w.heap.size := by omega
  have n2 : ¬ w.heap.size = T := by omega
  cases hq : (t.kd == 29)
  · go_enter Try.func33, Try.ntmps33
    go_wp2
    refine bodyPost_ret (v := .tuple #[.string ⟨#[]⟩, .agg #[.int .i32 0], .bool false]) (by simp [results, Try.results33, go_sem]) rfl ⟨_, _, _, fun _ => rfl, rfl, ?_⟩
    exact ba _ _
  · go_enter Try.func33, Try.ntmps33
    go_wp2
    go_region
    go_wp2
    refine bodyPost_ret (v := .tuple #[.string t.tx, .agg #[.int .i32 t.lo], .bool true]) (by simp [results, Try.results33, go_sem]) rfl ⟨_, _, _, fun _ => rfl, rfl, ?_⟩
    exact (ba _ _).drew
theorem single_c (T o n c : Nat) (F : Nat → Tk) (w : World) (h : TokB w T o n F) (hn : 0 < n) (hn' : n ≤ 1048576) : Calls Try.prog 33 #[.slice (some ⟨T, o, none⟩) n c] w (SingleP n w) := by
  by_cases e : n = 1
  · subst e
    have := (h 0 (by omega)).1
    simp only [Nat.zero_mul, Nat.add_zero] at this
    exact single_y T o c (F 0) w this
  · exact single_n _ n c w e hn'
def dirF (c : Int) : Int := if c = 2 ∨ c = 3 then -1 else if c = 4 ∨ c = 5 then 1 else 0
set_option maxRecDepth 100000 in
set_option maxHeartbeats 2000000 in
theorem dir22_c (c : Int) (w : World) : Calls Try.prog 22 #[.int .u8 c] w fun e w' => e = .returned (.int .i64 (dirF c)) ∧ w = w' := by
  go_enter Try.func22, Try.ntmps22
  go_wp2
  all_goals
    go_ret
    refine ⟨?_, rfl⟩
    unfold dirF
    simp_all
theorem trim_ge (m : Nat) (F : Nat → Tk) (i : Nat) (h : m ≤ i) : trim m F i = F i := by
  unfold trim
  by_cases e : m = 0
  · rw [if_pos e]
  · rw [if_neg e, if_pos h]
theorem TokB.congr {w : World} {T o n : Nat} {F G : Nat → Tk} (h : TokB w T o n F) (e : ∀ i, i < n → F i = G i) : TokB w T o n G := fun i hi => by rw [← e i hi]; exact h i hi
def ScanQ (A : Option Addr) (T o m r : Nat) (F : Nat → Tk) (w : World) (e : Ending) (w' : World) : Prop :=
  ∃ A', e = .returned (.tuple #[.slice A m (m + r), .slice A' r r]) ∧ (0 < r → A' = some ⟨T, o + m * 7, none⟩) ∧ (A' = none → r = 0) ∧ TokB w' T o m (trim m F) ∧ TokB w' T (o + m * 7) r (fun i => F (i + m)) ∧ Fr T o (m * 7) w w'
theorem scanQ (A : Option Addr) (T o n : Nat) (F : Nat → Tk) (w : World) (hA : 0 < n → A = some ⟨T, o, none⟩) (hA0 : A = none → n = 0) (hm : n ≤ 1048576) (h : TokB w T o n F) :
    ∃ m r, n = m + r ∧ (m = 0 ∨ m = 1 ∨ m = 3) ∧ Calls Try.prog 30 #[.slice A n n] w (ScanQ A T o m r F w) := by
  have hle := sv_le n F
  refine ⟨sv n F, n - sv n F, by omega, by have := sv_or n F; omega, ?_⟩
  refine (scan_c A T o n n F w hA hA0 (Nat.le_refl _) (by omega) h).mono ?_
  rintro e w' ⟨A', rfl, h1, h2, h3⟩
  refine ⟨A', by rw [show sv n F + (n - sv n F) = n by omega], fun h => h1 (by omega), fun h => ?_, fun i hi => h2 i (by omega), (h2.shift (sv n F)).congr (fun i hi => trim_ge _ _ _ (by omega)), h3⟩
  by_cases hl : sv n F < n
  · rw [h1 hl] at h; cases h
  · omega
def CmpQ (T o : Nat) (v : Int) (k r : Nat) (F : Nat → Tk) (w : World) (e : Ending) (w' : World) : Prop :=
  ∃ A' q, e = .returned (.tuple #[.int .u8 v, .slice A' r r]) ∧ (0 < r → A' = some ⟨T, o + k * 7, none⟩) ∧ (A' = none → r = 0) ∧ TokB w' T (o + k * 7) r (fun i => F (i + k)) ∧ w' = w.drewN q
/-- a comparison's sign -/
def isC (k : Int) : Prop := k = 18 ∨ k = 20 ∨ k = 21
theorem cv_facts (n : Nat) (F : Nat → Tk) : 0 ≤ cv n F ∧ cv n F ≤ 5 ∧ ((cv n F = 0 ∧ cn n F = 0) ∨ (cv n F ≠ 0 ∧ 1 ≤ cn n F ∧ cn n F ≤ 2 ∧ isC (F 0).kd)) := by
  unfold cv cn isC
  by_cases h0 : n = 0
  · simp [h0]
  · by_cases e1 : (F 0).kd = 18
    · simp [h0, e1]
    · by_cases e2 : (F 0).kd = 21
      · by_cases q : eq2 n F = true <;> simp [h0, e2, q]
      · by_cases e3 : (F 0).kd = 20
        · by_cases q : eq2 n F = true <;> simp [h0, e3, q]
        · simp [h0, e1, e2, e3]
theorem cmpQ (A : Option Addr) (T o n : Nat) (F : Nat → Tk) (w : World) (hA : 0 < n → A = some ⟨T, o, none⟩) (hA0 : A = none → n = 0) (hm : n ≤ 1048576) (h : TokB w T o n F) :
    ∃ v k r, n = k + r ∧ 0 ≤ v ∧ v ≤ 5 ∧ (v = 0 ∨ (v ≠ 0 ∧ 1 ≤ k ∧ k ≤ 2 ∧ isC (F 0).kd)) ∧ Calls Try.prog 24 #[.slice A n n] w (CmpQ T o v k r F w) := by
  have hle := cn_le n F
  obtain ⟨a1, a2, a3⟩ := cv_facts n F
  refine ⟨cv n F, cn n F, n - cn n F, by omega, a1, a2, by rcases a3 with a | a; exact .inl a.1; exact .inr a, ?_⟩
  refine (cmp_c A T o n n F w hA hA0 (Nat.le_refl _) (by omega) h).mono ?_
  rintro e w' ⟨A', q, rfl, h1, h2, rfl⟩
  exact ⟨A', q, rfl, fun h => h1 (by omega), h2, (h.after (bdN (Below.refl _ _) q)).shift (cn n F), rfl⟩
theorem and_bits : ∀ n : Fin 256, and8 (and8 n.val 254) 1 = 0 ∧ and8 (and8 (and8 n.val 254) 253) 1 = 0 ∧ and8 (and8 (and8 n.val 254) 253) 2 = 0 ∧ and8 (and8 n.val 253) 2 = 0 := by decide +kernel
theorem and_facts {x : Int} (h0 : 0 ≤ x) (h1 : x ≤ 255) : and8 (and8 x 254) 1 = 0 ∧ and8 (and8 (and8 x 254) 253) 1 = 0 ∧ and8 (and8 (and8 x 254) 253) 2 = 0 ∧ and8 (and8 x 253) 2 = 0 := by
  obtain ⟨n, rfl⟩ : ∃ n : Nat, x = n := ⟨x.toNat, by omega⟩
  exact and_bits ⟨n, by omega⟩
/-- a value whose outer blanks are gone -/
def Val (w : World) (B : Option Addr) (nb : Nat) : Prop := nb = 0 ∨ ((nb = 1 ∨ nb = 3) ∧ ∃ T o x y, B = some ⟨T, o, none⟩ ∧ w.cell? ⟨T, o + 6, none⟩ = some (.int .u8 x) ∧ w.cell? ⟨T, o + (nb - 1) * 7 + 6, none⟩ = some (.int .u8 y) ∧ and8 x 1 = 0 ∧ and8 y 2 = 0)
theorem Val.after {w w' : World} {B : Option Addr} {nb : Nat} (h : Val w B nb) (hb : Below w.heap.size w w') : Val w' B nb := by
  rcases h with h | ⟨h, T, o, x, y, e, h1, h2, h3, h4⟩
  · exact .inl h
  · exact .inr ⟨h, T, o, x, y, e, ac hb h1, ac hb h2, h3, h4⟩
theorem val_of {w : World} {T o m : Nat} {G : Nat → Tk} (h : TokB w T o m (trim m G)) (hm : m = 1 ∨ m = 3) (hr : ∀ i, i < m → 0 ≤ (G i).ws ∧ (G i).ws ≤ 255) : Val w (some ⟨T, o, none⟩) m := by
  rcases hm with rfl | rfl
  · obtain ⟨⟨-, -, -, -, -, -, c6⟩, -⟩ := h 0 (by omega)
    obtain ⟨a, b⟩ := hr 0 (by omega)
    obtain ⟨-, f2, f3, -⟩ := and_facts a b
    have e : (trim 1 G 0).ws = and8 (and8 (G 0).ws 254) 253 := by simp [trim]
    rw [e] at c6
    simp only [Nat.zero_mul, Nat.add_zero] at c6
    exact .inr ⟨.inl rfl, T, o, _, _, rfl, c6, by simpa using c6, f2, f3⟩
  · obtain ⟨⟨-, -, -, -, -, -, c6⟩, -⟩ := h 0 (by omega)
    obtain ⟨⟨-, -, -, -, -, -, d6⟩, -⟩ := h 2 (by omega)
    obtain ⟨a, b⟩ := hr 0 (by omega)
    obtain ⟨a', b'⟩ := hr 2 (by omega)
    have e : (trim 3 G 0).ws = and8 (G 0).ws 254 := by simp [trim]
    have e' : (trim 3 G 2).ws = and8 (G 2).ws 253 := by simp [trim]
    rw [e] at c6
    rw [e'] at d6
    simp only [Nat.zero_mul, Nat.add_zero] at c6
    exact .inr ⟨.inr rfl, T, o, _, _, rfl, c6, d6, (and_facts a b).1, (and_facts a' b').2.2.2⟩
structure Shape (n : Nat) (F : Nat → Tk) (nb na : Nat) (bc ac : Int) : Prop where
  b0 : 0 ≤ bc
  b5 : bc ≤ 5
  a0 : 0 ≤ ac
  a5 : ac ≤ 5
  bn : nb = 0 ↔ bc = 0
  an : na = 0 ↔ ac = 0
  some : ¬ (bc = 0 ∧ ac = 0)
  dir : bc ≠ 0 → ac ≠ 0 → dirF bc ≠ 0 ∧ dirF bc = dirF ac
  lo : 3 ≤ n
  hi : n ≤ 11
  cmp : ∃ i, i < n ∧ isC (F i).kd
def RangeP (T n : Nat) (F : Nat → Tk) (w : World) (e : Ending) (w' : World) : Prop :=
  (e = .returned (.tuple #[.pointer none, .bool false]) ∨ ∃ q B nb cb A na ca bc ac, e = .returned (.tuple #[.pointer (some ⟨q, 0, none⟩), .bool true]) ∧ w'.cell? ⟨q, 0, none⟩ = some (.slice B nb cb) ∧ w'.cell? ⟨q, 2, none⟩ = some (.slice A na ca) ∧ w'.cell? ⟨q, 4, none⟩ = some (.int .u8 bc) ∧ w'.cell? ⟨q, 5, none⟩ = some (.int .u8 ac) ∧ Val w' B nb ∧ Val w' A na ∧ Shape n F nb na bc ac) ∧ Only (fun x => x = T) w w'
set_option maxRecDepth 100000 in
set_option maxHeartbeats 2000000 in
theorem range32_c (A : Option Addr) (T n : Nat) (F : Nat → Tk) (w : World) (hm : n ≤ 1048576) (hA : 0 < n → A = some ⟨T, 0, none⟩) (hA0 : A = none → n = 0) (h : TokB w T 0 n F) (hw : ∀ i, i < n → 0 ≤ (F i).ws ∧ (F i).ws ≤ 255) : Calls Try.prog 32 #[.slice A n n] w (RangeP T n F w) := by
  obtain ⟨m1, r1, hn, hm1, C⟩ := scanQ A T 0 n F w hA hA0 hm h
  have C1 := Lib.hid C
  have HW := Lib.hid hw
  have hn1 : n ≤ m1 + r1 := by omega
  have hn2 : m1 + r1 ≤ n := by omega
  clear hn
  have HA := Lib.hid hA
  clear C h hA0 hw hA
  go_enter Try.func32, Try.ntmps32
  go_upto_region 2 with (go_at_call 30; (with_reducible refine C1.out.mono ?_); rintro e w1 ⟨A1, rfl, x1, x2, x3, x4, x5⟩; simp only [Nat.zero_add] at x1 x4; have hO := Lib.hid x5.only; replace x1 := Lib.hid x1; replace x2 := Lib.hid x2; replace x3 := Lib.hid x3; replace x4 := Lib.hid x4; clear x5)
  clear C1
  by_cases h1 : m1 = 0
  · subst h1
    clear hm1
    go_wp2
    go_ret2; exact ⟨.inl rfl, hO.out⟩
  replace hm1 : m1 = 1 ∨ m1 = 3 := by omega
  have hnp : 0 < n := by omega
  obtain rfl : A = some ⟨T, 0, none⟩ := HA.out hnp
  have hr1 : r1 ≤ 1048576 := by omega
  obtain ⟨v1, k1, r2, hr, hv0, hv5, hvk, C⟩ := cmpQ A1 T (m1 * 7) r1 (fun i => F (i + m1)) w1 x1.out x2.out hr1 x4.out
  have C1 := Lib.hid C
  have hr2 : r1 ≤ k1 + r2 := by omega
  have hr3 : k1 + r2 ≤ r1 := by omega
  clear C x4 hr
  have hp1 : (0 : Int) < m1 := by omega
  go_upto_region 4 with (go_at_call 24; (with_reducible refine C1.out.mono ?_); rintro e w2 ⟨A2, q1, rfl, y1, y2, y3, rfl⟩; replace hO := Lib.hid (hO.out.drewN q1); replace x3 := Lib.hid (x3.out.after (bdN (Below.refl _ _) q1)); replace y1 := Lib.hid y1; replace y2 := Lib.hid y2; replace y3 := Lib.hid y3)
  clear C1
  by_cases h2 : v1 = 0
  · subst h2
    go_wp2
    go_ret2; exact ⟨.inl rfl, hO.out⟩
  obtain ⟨-, hk1, hk2, hc1⟩ := hvk.resolve_left h2
  have hq2 : (v1 != 0) = true := by simp [h2]
  obtain ⟨m2, r3, hr', hm2, C⟩ := scanQ A2 T (m1 * 7 + k1 * 7) r2 (fun i => F (i + k1 + m1)) _ y1.out y2.out (by omega) y3.out
  have C1 := Lib.hid C
  have hr4 : r2 ≤ m2 + r3 := by omega
  have hr5 : m2 + r3 ≤ r2 := by omega
  clear C y3 hr'
  replace hvk := Lib.hid hvk; replace h2 := Lib.hid h2; replace hc1 := Lib.hid hc1
  go_upto_region 6 with (go_at_call 30; (with_reducible refine C1.out.mono ?_); rintro e w3 ⟨A3, rfl, z1, z2, z3, z4, z5⟩; replace hO := Lib.hid (hO.out.trans z5.only); replace x3 := Lib.hid (z5.tok x3.out (by omega)); replace z1 := Lib.hid z1; replace z2 := Lib.hid z2; replace z3 := Lib.hid z3; replace z4 := Lib.hid z4; clear z5)
  clear C1
  by_cases h3 : m2 = 0
  · subst h3
    go_wp2
    go_ret2; exact ⟨.inl rfl, hO.out⟩
  replace hm2 : m2 = 1 ∨ m2 = 3 := by omega
  obtain rfl : A2 = some ⟨T, m1 * 7 + k1 * 7, none⟩ := y1.out (by omega)
  have hp2 : (0 : Int) < m2 := by omega
  clear y1 y2
  have V1 := Lib.hid (val_of x3.out hm1 (fun i hi => HW.out i (by omega)))
  have V2 := Lib.hid (val_of z3.out hm2 (fun i hi => HW.out (i + k1 + m1) (by omega)))
  have hcmp : Hid (∃ i, i < n ∧ isC (F i).kd) := Lib.hid ⟨0 + m1, by omega, hc1.out⟩
  by_cases h4 : r3 = 0
  · subst h4
    have CS := Lib.hid (single_c T 0 m1 (m1 + r1) _ w3 x3.out (by omega) (by omega))
    go_upto_region 9 with (go_at_call 33; (with_reducible refine CS.out.mono ?_); rintro e w4 ⟨nx, ny, b, hb1, rfl, hb⟩; replace hb1 := Lib.hid hb1; replace V1 := Lib.hid (V1.out.after hb); replace V2 := Lib.hid (V2.out.after hb); replace z3 := Lib.hid (z3.out.after hb); replace hO := Lib.hid (hO.out.trans (Only.of hb)); clear hb)
    clear CS
    cases b
    · have CS := Lib.hid (fun o c => single_c T (m1 * 7 + k1 * 7) m2 c _ (w4.alloc o) (z3.out.after (ba w4 o)) (by omega) (by omega))
      go_upto_region 12 with (go_at_call 33; (with_reducible refine (CS.out _ _).mono ?_); rintro e w5 ⟨nx', ny', b', hb2, rfl, hb⟩; replace hb2 := Lib.hid hb2; replace V1 := Lib.hid ((V1.out.after (ba _ _)).after hb); replace hO := Lib.hid ((hO.out.trans (Only.of (ba _ _))).trans (Only.of hb)); clear hb)
      cases b'
      · go_wp2
        go_ret2
        exact ⟨.inl rfl, hO.out.trans (Only.of (ba _ _))⟩
      · have e2 : m2 = 1 := hb2.out rfl
        have e2' := Lib.hid e2
        clear e2
        go_wp2
        go_ret2
        refine ⟨.inr ⟨w5.heap.size + 1, some ⟨T, 0, none⟩, m1, m1 + r1, none, 0, 0, v1, 0, rfl, by simp [go_sem], by simp [go_sem], by simp [go_sem], by simp [go_sem], (V1.out.after (ba _ _)).after (ba _ _), .inl rfl, ⟨hv0, hv5, by omega, by omega, ?_, by simp, ?_, ?_, ?_, ?_, hcmp.out⟩⟩, (hO.out.trans (Only.of (ba _ _))).trans (Only.of (ba _ _))⟩
        · exact ⟨fun h => by omega, fun h => absurd h h2.out⟩
        · exact fun h => h2.out h.1
        · exact fun _ h => absurd rfl h
        · have := e2'.out; omega
        · have := e2'.out; omega
    · have e1 : m1 = 1 := hb1.out rfl
      have e1' := Lib.hid e1
      clear e1
      go_wp2
      go_ret2
      refine ⟨.inr ⟨w4.heap.size + 1, none, 0, 0, some ⟨T, m1 * 7 + k1 * 7, none⟩, m2, m2, 0, v1, rfl, by simp [go_sem], by simp [go_sem], by simp [go_sem], by simp [go_sem], .inl rfl, (V2.out.after (ba _ _)).after (ba _ _), ⟨by omega, by omega, hv0, hv5, by simp, ?_, ?_, ?_, ?_, ?_, hcmp.out⟩⟩, (hO.out.trans (Only.of (ba _ _))).trans (Only.of (ba _ _))⟩
      · exact ⟨fun h => by omega, fun h => absurd h h2.out⟩
      · exact fun h => h2.out h.2
      · exact fun h => absurd rfl h
      · have := e1'.out; omega
      · have := e1'.out; omega
  · have hz : ((r3 : Int) == 0) = false := by simp; omega
    have CS := Lib.hid (single_c T (m1 * 7 + k1 * 7) m2 (m2 + r3) _ w3 z3.out (by omega) (by omega))
    go_upto_region 15 with (go_at_call 33; (with_reducible refine CS.out.mono ?_); rintro e w4 ⟨nx, ny, b, hb1, rfl, hb⟩; replace hb1 := Lib.hid hb1; replace V1 := Lib.hid (V1.out.after hb); replace x3 := Lib.hid (x3.out.after hb); replace z4 := Lib.hid (z4.out.after hb); replace hO := Lib.hid (hO.out.trans (Only.of hb)); clear hb V2 z3)
    clear CS
    cases b
    · go_wp2
      go_ret2
      exact ⟨.inl rfl, hO.out.trans (Only.of (ba _ _))⟩
    have e2 : m2 = 1 := hb1.out rfl
    have e2' := Lib.hid e2
    clear e2
    refine wp_gen (fun W5 hW => ?_)
    have hbW : Below w4.heap.size w4 W5 := by rw [hW]; exact ba _ _
    have yc : W5.cell? ⟨w4.heap.size, 0, none⟩ = some (.int .i32 ny) := by rw [hW]; simp [go_sem]
    have hTl : T < w4.heap.size := block_lt_of_cell (x3.out 0 (by omega)).1.c0
    clear hW
    replace V1 := Lib.hid (V1.out.after hbW)
    replace x3 := Lib.hid (x3.out.after hbW)
    replace z4 := Lib.hid (z4.out.after hbW)
    replace hO := Lib.hid (hO.out.trans (Only.of hbW))
    clear hbW
    generalize w4.heap.size = P at *
    have hPT : ¬ P = T := by omega
    obtain ⟨v2, k2, r4, hr, hu0, hu5, huk, C⟩ := cmpQ A3 T (m1 * 7 + k1 * 7 + m2 * 7) r3 (fun i => F (i + m2 + k1 + m1)) W5 z1.out z2.out (by omega) z4.out
    have C1 := Lib.hid C
    have hr6 : r3 ≤ k2 + r4 := by omega
    have hr7 : k2 + r4 ≤ r3 := by omega
    clear C z4 hr
    go_upto_region 17 with (go_at_call 24; (with_reducible refine C1.out.mono ?_); rintro e w6 ⟨A4, q2, rfl, y1, y2, y3, rfl⟩; replace hO := Lib.hid (hO.out.drewN q2); replace V1 := Lib.hid (V1.out.after (bdN (Below.refl _ _) q2)); replace x3 := Lib.hid (x3.out.after (bdN (Below.refl _ _) q2)); replace y1 := Lib.hid y1; replace y2 := Lib.hid y2; replace y3 := Lib.hid y3)
    clear C1
    by_cases h5 : v2 = 0
    · subst h5
      go_wp2
      go_ret2
      exact ⟨.inl rfl, hO.out⟩
    obtain ⟨-, hk3, hk4, -⟩ := huk.resolve_left h5
    have hq5 : (v2 != 0) = true := by simp [h5]
    replace huk := Lib.hid huk; replace h5 := Lib.hid h5
    by_cases hd : (dirF v1 < 0 ∧ dirF v2 < 0) ∨ (0 < dirF v1 ∧ 0 < dirF v2)
    · have hdd : dirF v1 ≠ 0 ∧ dirF v1 = dirF v2 := by
        have q : ∀ c, dirF c = -1 ∨ dirF c = 1 ∨ dirF c = 0 := fun c => by unfold dirF; split <;> (try split) <;> simp
        have := q v1; have := q v2; omega
      replace hdd := Lib.hid hdd
      obtain ⟨m3, r5, hr', hm3, C⟩ := scanQ A4 T (m1 * 7 + k1 * 7 + m2 * 7 + k2 * 7) r4 (fun i => F (i + k2 + m2 + k1 + m1)) _ y1.out y2.out (by omega) y3.out
      have C1 := Lib.hid C
      have hr8 : r4 ≤ m3 + r5 := by omega
      have hr9 : m3 + r5 ≤ r4 := by omega
      clear C y3 hr'
      have ha1 : 0 < m1 := by omega
      have hstep : ∀ (w7 : World), Fr T (m1 * 7 + k1 * 7 + m2 * 7 + k2 * 7) (m3 * 7) (W5.drewN q2) w7 → TokB w7 T 0 m1 (trim m1 F) := fun _ hf => hf.tok x3.out (by omega)
      replace hstep := Lib.hid hstep
      rcases hd with ⟨d1, d2⟩ | ⟨d1, d2⟩
      all_goals
        go_upto_region 21 with (first | (go_at_call 22; (with_reducible refine (dir22_c _ _).mono ?_); rintro e w' ⟨rfl, rfl⟩) | (go_at_call 30; (with_reducible refine C1.out.mono ?_); rintro e w7 ⟨A5, rfl, u1, u2, u3, u4, u5⟩; replace hO := Lib.hid (hO.out.trans u5.only); have yc7 := u5.only.keep (a := ⟨P, 0, none⟩) yc hPT; replace x3 := Lib.hid (hstep.out _ u5); replace u3 := Lib.hid u3; clear u1 u2 u4 u5))
        by_cases h6 : m3 = 0
        · subst h6
          go_wp2
          go_ret2
          exact ⟨.inl rfl, hO.out⟩
        have h6' : decide ((0 : Int) < m3) = true := by simp; omega
        have h6'' : (0 : Int) < m3 := by omega
        by_cases h7 : r5 = 0
        · subst h7
          have V1' := Lib.hid (val_of x3.out hm1 (fun i hi => HW.out i (by omega)))
          have V3 := Lib.hid (val_of u3.out (by omega) (fun i hi => HW.out (i + k2 + m2 + k1 + m1) (by omega)))
          obtain rfl : A4 = some ⟨T, m1 * 7 + k1 * 7 + m2 * 7 + k2 * 7, none⟩ := y1.out (by omega)
          go_wp2
          go_ret2
          refine ⟨.inr ⟨w7.heap.size, some ⟨T, 0, none⟩, m1, m1 + r1, some ⟨T, m1 * 7 + k1 * 7 + m2 * 7 + k2 * 7, none⟩, m3, m3, v1, v2, rfl, by simp [go_sem], by simp [go_sem], by simp [go_sem], by simp [go_sem], V1'.out.after (ba _ _), V3.out.after (ba _ _), ⟨hv0, hv5, hu0, hu5, ?_, ?_, ?_, ?_, ?_, ?_, hcmp.out⟩⟩, hO.out.trans (Only.of (ba _ _))⟩
          · exact ⟨fun h => by omega, fun h => absurd h h2.out⟩
          · exact ⟨fun h => by omega, fun h => absurd h h5.out⟩
          · exact fun h => h2.out h.1
          · exact fun _ _ => hdd.out
          · have := e2'.out; omega
          · have := e2'.out; omega
        · have h7' : ((r5 : Int) == 0) = false := by simp; omega
          go_wp2
          go_ret2
          exact ⟨.inl rfl, hO.out⟩
    · have q : ∀ c, dirF c = -1 ∨ dirF c = 1 ∨ dirF c = 0 := fun c => by unfold dirF; split <;> (try split) <;> simp
      have q1' := q v1; have q2' := q v2
      clear q
      by_cases d1 : dirF v1 < 0
      · have d2 : ¬ dirF v2 < 0 := by omega
        have d3 : ¬ 0 < dirF v1 := by omega
        clear q1' q2' hd
        go_wp2_with (go_at_call 22; (with_reducible refine (dir22_c _ _).mono ?_); rintro e w' ⟨rfl, rfl⟩)
        go_ret2
        exact ⟨.inl rfl, hO.out⟩
      · by_cases d2 : 0 < dirF v1
        · have d3 : ¬ 0 < dirF v2 := by omega
          clear q1' q2' hd
          go_wp2_with (go_at_call 22; (with_reducible refine (dir22_c _ _).mono ?_); rintro e w' ⟨rfl, rfl⟩)
          go_ret2
          exact ⟨.inl rfl, hO.out⟩
        · clear q1' q2' hd
          go_wp2_with (go_at_call 22; (with_reducible refine (dir22_c _ _).mono ?_); rintro e w' ⟨rfl, rfl⟩)
          go_ret2
          exact ⟨.inl rfl, hO.out⟩
end Go.Proofs.Ytpnfllnnbinbjaa
