/- scanMediaValue: what it takes, and what it trims. -/
import Derived.Test.YtpnfllnnbinbjaaWd
import Derived.Deep.QuietTactic
set_option linter.unusedVariables false
set_option linter.unusedSimpArgs false
namespace Go.Proofs.Ytpnfllnnbinbjaa
open Go.RowKit
/-- n tokens from T, o on, whose whitespace may be written -/
def TokB (w : World) (T o n : Nat) (F : Nat → Tk) : Prop := ∀ i, i < n → TAt w T (o + i * 7) (F i) ∧ w.frozen? ⟨T, o + i * 7 + 6, none⟩ = false
theorem TokB.after {w w' : World} {T o n : Nat} {F : Nat → Tk} (h : TokB w T o n F) (hb : Below w.heap.size w w') : TokB w' T o n F := fun i hi => ⟨(h i hi).1.after hb, af hb (h i hi).1.c6 (h i hi).2⟩
/-- only k cells from T, o on may differ -/
structure Fr (T o k : Nat) (w w' : World) : Prop where
  below : ∀ B, B ≤ T → Below B w w'
  cell : ∀ p : Addr, (p.block ≠ T ∨ p.off < o ∨ o + k ≤ p.off) → w'.cell? p = w.cell? p
  froz : ∀ p : Addr, w'.frozen? p = w.frozen? p
  only : Only (fun x => x = T) w w'
theorem Fr.refl (T o k : Nat) (w : World) (n : Nat) : Fr T o k w (w.drewN n) := ⟨fun B _ => bdN (Below.refl _ _) n, fun p _ => rfl, fun p => rfl, Only.of (bdN (Below.refl _ _) n)⟩
theorem Fr.set {T o k : Nat} {w w' : World} (h : Fr T o k w w') (j : Nat) (v : Value) (h1 : o ≤ j) (h2 : j < o + k) : Fr T o k w (w'.setCell ⟨T, j, none⟩ v) :=
  ⟨fun B hB => (h.below B hB).setCell hB _, fun p hp => by rw [co (by rintro rfl; simp at hp; omega)]; exact h.cell p hp, fun p => by rw [fz]; exact h.froz p, h.only.set _ _ rfl⟩
theorem Fr.drewN {T o k : Nat} {w w' : World} (h : Fr T o k w w') (n : Nat) : Fr T o k w (w'.drewN n) := ⟨fun B hB => bdN (h.below B hB) n, h.cell, h.froz, h.only.drewN n⟩
theorem Fr.wide {T o k o' k' : Nat} {w w' : World} (h : Fr T o k w w') (h1 : o' ≤ o) (h2 : o + k ≤ o' + k') : Fr T o' k' w w' := ⟨h.below, fun p hp => h.cell p (by omega), h.froz, h.only⟩
theorem Fr.trans {T o k : Nat} {w w1 w2 : World} (h : Fr T o k w w1) (h' : Fr T o k w1 w2) : Fr T o k w w2 := ⟨fun B hB => (h.below B hB).trans (h'.below B hB), fun p hp => (h'.cell p hp).trans (h.cell p hp), fun p => (h'.froz p).trans (h.froz p), h.only.trans h'.only⟩
theorem Fr.tok {T o k T' o' n : Nat} {w w' : World} {F : Nat → Tk} (h : Fr T o k w w') (ht : TokB w T' o' n F) (hd : T' ≠ T ∨ o' + n * 7 ≤ o ∨ o + k ≤ o') : TokB w' T' o' n F := fun i hi =>
  ⟨(ht i hi).1.keep fun j hj => h.cell _ (by simp; omega), by rw [h.froz]; exact (ht i hi).2⟩
abbrev and8 (a b : Int) : Int := bits BinOp.and IntKind.u8 a b
/-- how many tokens scanMediaValue takes -/
def sv (n : Nat) (F : Nat → Tk) : Nat :=
  if 1 ≤ n ∧ ((F 0).kd = 26 ∨ (F 0).kd = 29) then 1 else if 1 ≤ n ∧ (F 0).kd = 30 then (if 3 ≤ n ∧ (F 1).kd = 24 ∧ (F 2).kd = 30 then 3 else 1) else 0
theorem sv_le (n : Nat) (F : Nat → Tk) : sv n F ≤ n := by unfold sv; split <;> (try split) <;> (try split) <;> omega
theorem sv_or (n : Nat) (F : Nat → Tk) : sv n F = 0 ∨ sv n F = 1 ∨ (sv n F = 3 ∧ 3 ≤ n) := by unfold sv; split <;> (try split) <;> (try split) <;> simp_all
/-- the first of m tokens without the blank ahead of it, the last without the one behind it -/
def trim (m : Nat) (F : Nat → Tk) (i : Nat) : Tk := if m = 0 then F i else if m ≤ i then F i else { F i with ws := if i + 1 = m then and8 (if i = 0 then and8 (F i).ws 254 else (F i).ws) 253 else if i = 0 then and8 (F i).ws 254 else (F i).ws }
theorem TAt.ws {w : World} {T o : Nat} {t : Tk} (h : TAt w T o t) (x : Int) : TAt (w.setCell ⟨T, o + 6, none⟩ (.int .u8 x)) T o { t with ws := x } := by
  have ne : ∀ {i j : Nat}, i ≠ j → (⟨T, i, none⟩ : Addr) ≠ ⟨T, j, none⟩ := fun h e => h (by injection e)
  obtain ⟨c0, c1, c2, c3, c4, c5, c6⟩ := h
  exact ⟨by rw [co (ne (by omega))]; exact c0, by rw [co (ne (by omega))]; exact c1, by rw [co (ne (by omega))]; exact c2, by rw [co (ne (by omega))]; exact c3, by rw [co (ne (by omega))]; exact c4, by rw [co (ne (by omega))]; exact c5, cs c6⟩
theorem fin0 {w : World} {T o n : Nat} {F : Nat → Tk} (h : TokB w T o n F) (q : Nat) : TokB (w.drewN q) T o n (trim 0 F) ∧ Fr T o 0 w (w.drewN q) := ⟨fun i hi => by
  have : trim 0 F i = F i := by unfold trim; rw [if_pos rfl]
  rw [this]; exact (h.after (bdN (Below.refl _ _) q)) i hi, Fr.refl _ _ _ _ _⟩
theorem fin1 {w : World} {T o n : Nat} {F : Nat → Tk} (h : TokB w T o n F) (q : Nat) (hn : 0 < n) :
    TokB (((w.setCell ⟨T, o + 6, none⟩ (.int .u8 (and8 (F 0).ws 254))).setCell ⟨T, o + 6, none⟩ (.int .u8 (and8 (and8 (F 0).ws 254) 253))).drewN q) T o n (trim 1 F) ∧ Fr T o 7 w (((w.setCell ⟨T, o + 6, none⟩ (.int .u8 (and8 (F 0).ws 254))).setCell ⟨T, o + 6, none⟩ (.int .u8 (and8 (and8 (F 0).ws 254) 253))).drewN q) := by
  refine ⟨fun i hi => ?_, ((((Fr.refl T o 7 w 0).set (o + 6) _ (by omega) (by omega)).set (o + 6) _ (by omega) (by omega)).drewN q)⟩
  obtain ⟨h1, h2⟩ := h i hi
  refine ⟨?_, by show World.frozen? _ _ = false; rw [show ∀ W : World, (W.drewN q).frozen? = W.frozen? from fun _ => rfl, fz, fz]; exact h2⟩
  refine TAt.after ?_ (bdN (Below.refl _ _) q)
  by_cases e : i = 0
  · subst e
    have e1 : trim 1 F 0 = { F 0 with ws := and8 (and8 (F 0).ws 254) 253 } := by simp [trim]
    rw [e1]
    simp only [Nat.zero_mul, Nat.add_zero] at h1
    have := (h1.ws (and8 (F 0).ws 254)).ws (and8 (and8 (F 0).ws 254) 253)
    simpa using this
  · have e1 : trim 1 F i = F i := by unfold trim; rw [if_neg (by omega), if_pos (by omega)]
    rw [e1]
    exact (h1.far (.inr (.inl (by dsimp only; omega)))).far (.inr (.inl (by dsimp only; omega)))
theorem fin3 {w : World} {T o n : Nat} {F : Nat → Tk} (h : TokB w T o n F) (q : Nat) (hn : 3 ≤ n) :
    TokB (((w.setCell ⟨T, o + 6, none⟩ (.int .u8 (and8 (F 0).ws 254))).setCell ⟨T, o + 14 + 6, none⟩ (.int .u8 (and8 (F 2).ws 253))).drewN q) T o n (trim 3 F) ∧ Fr T o 21 w (((w.setCell ⟨T, o + 6, none⟩ (.int .u8 (and8 (F 0).ws 254))).setCell ⟨T, o + 14 + 6, none⟩ (.int .u8 (and8 (F 2).ws 253))).drewN q) := by
  refine ⟨fun i hi => ?_, ((((Fr.refl T o 21 w 0).set (o + 6) _ (by omega) (by omega)).set (o + 14 + 6) _ (by omega) (by omega)).drewN q)⟩
  obtain ⟨h1, h2⟩ := h i hi
  refine ⟨?_, by show World.frozen? _ _ = false; rw [show ∀ W : World, (W.drewN q).frozen? = W.frozen? from fun _ => rfl, fz, fz]; exact h2⟩
  refine TAt.after ?_ (bdN (Below.refl _ _) q)
  by_cases e : i = 0
  · subst e
    have e1 : trim 3 F 0 = { F 0 with ws := and8 (F 0).ws 254 } := by simp [trim]
    rw [e1]
    simp only [Nat.zero_mul, Nat.add_zero] at h1 ⊢
    exact (h1.ws (and8 (F 0).ws 254)).far (.inr (.inr (by dsimp only; omega)))
  · by_cases e2 : i = 2
    · subst e2
      have e1 : trim 3 F 2 = { F 2 with ws := and8 (F 2).ws 253 } := by simp [trim]
      rw [e1]
      exact (h1.far (p := ⟨T, o + 6, none⟩) (.inr (.inl (by dsimp only; omega)))).ws _
    · have e1 : trim 3 F i = F i := by
        by_cases e3 : i = 1
        · subst e3; simp [trim]
        · unfold trim; rw [if_neg (by omega), if_pos (by omega)]
      rw [e1]
      by_cases e3 : i = 1
      · subst e3
        exact (h1.far (.inr (.inl (by dsimp only; omega)))).far (.inr (.inr (by dsimp only; omega)))
      · exact (h1.far (.inr (.inl (by dsimp only; omega)))).far (.inr (.inl (by dsimp only; omega)))
/-- what scanMediaValue leaves -/
def ScanP (A : Option Addr) (T o n c : Nat) (F : Nat → Tk) (m : Nat) (w : World) (e : Ending) (w' : World) : Prop :=
  ∃ A', e = .returned (.tuple #[.slice A m c, .slice A' (n - m) (c - m)]) ∧ (m < n → A' = some ⟨T, o + m * 7, none⟩) ∧ TokB w' T o n (trim m F) ∧ Fr T o (m * 7) w w'
set_option maxRecDepth 100000 in
set_option maxHeartbeats 1000000 in
theorem scan_nil (A : Option Addr) (T o c : Nat) (F : Nat → Tk) (w : World) (hA : A = none → c = 0) (hm : c ≤ 9223372036854775807) :
    Calls Try.prog 30 #[.slice A 0 c] w (ScanP A T o 0 c F 0 w) := by
  have H0 : TokB w T o 0 F := fun i hi => absurd hi (by omega)
  have H := Lib.hid H0
  clear H0
  cases A with
  | none =>
    obtain rfl := hA rfl
    go_enter Try.func30, Try.ntmps30
    go_wp2
    go_quiet (fail)
    go_wp2
    all_goals (go_ret2; exact ⟨_, rfl, (fun h => absurd h (by omega)), fin0 H.out _⟩)
  | some x =>
    clear hA
    go_enter Try.func30, Try.ntmps30
    go_wp2
    go_quiet (fail)
    go_wp2
    all_goals (go_ret2; exact ⟨_, rfl, (fun h => absurd h (by omega)), fin0 H.out _⟩)
set_option maxRecDepth 100000 in
set_option maxHeartbeats 1000000 in
theorem scan_not (T o n c : Nat) (F : Nat → Tk) (w : World) (hn : 0 < n) (hc : n ≤ c) (hm : c ≤ 9223372036854775807) (h : TokB w T o n F) (e1 : ((F 0).kd == 26) = false) (e2 : ((F 0).kd == 29) = false) (e3 : ((F 0).kd == 30) = false) :
    Calls Try.prog 30 #[.slice (some ⟨T, o, none⟩) n c] w (ScanP (some ⟨T, o, none⟩) T o n c F 0 w) := by
  obtain ⟨⟨-, -, -, -, -, k0, s0⟩, f0⟩ := h 0 (by omega)
  simp only [Nat.zero_mul, Nat.one_mul, Nat.add_zero, Nat.reduceMul] at k0 s0 f0
  have H := Lib.hid h
  clear h
  go_enter Try.func30, Try.ntmps30
  go_wp2
  go_quiet (fail)
  go_wp2
  all_goals (go_ret2; exact ⟨_, rfl, (fun h => by simp), fin0 H.out _⟩)
set_option maxRecDepth 100000 in
set_option maxHeartbeats 1000000 in
theorem scan_26 (T o n c : Nat) (F : Nat → Tk) (w : World) (hn : 0 < n) (hc : n ≤ c) (hm : c ≤ 9223372036854775807) (h : TokB w T o n F) (e1 : ((F 0).kd == 26) = true) :
    Calls Try.prog 30 #[.slice (some ⟨T, o, none⟩) n c] w (ScanP (some ⟨T, o, none⟩) T o n c F 1 w) := by
  obtain ⟨⟨-, -, -, -, -, k0, s0⟩, f0⟩ := h 0 (by omega)
  simp only [Nat.zero_mul, Nat.one_mul, Nat.add_zero, Nat.reduceMul] at k0 s0 f0
  have H := Lib.hid h
  clear h
  go_enter Try.func30, Try.ntmps30
  go_wp2
  go_quiet (fail)
  go_wp2
  all_goals (go_ret2; exact ⟨_, rfl, (fun h => by first | rfl | (exfalso; omega)), fin1 H.out _ (by omega)⟩)
set_option maxRecDepth 100000 in
set_option maxHeartbeats 1000000 in
theorem scan_29 (T o n c : Nat) (F : Nat → Tk) (w : World) (hn : 0 < n) (hc : n ≤ c) (hm : c ≤ 9223372036854775807) (h : TokB w T o n F) (e1 : ((F 0).kd == 26) = false) (e2 : ((F 0).kd == 29) = true) :
    Calls Try.prog 30 #[.slice (some ⟨T, o, none⟩) n c] w (ScanP (some ⟨T, o, none⟩) T o n c F 1 w) := by
  obtain ⟨⟨-, -, -, -, -, k0, s0⟩, f0⟩ := h 0 (by omega)
  simp only [Nat.zero_mul, Nat.one_mul, Nat.add_zero, Nat.reduceMul] at k0 s0 f0
  have H := Lib.hid h
  clear h
  go_enter Try.func30, Try.ntmps30
  go_wp2
  go_quiet (fail)
  go_wp2
  all_goals (go_ret2; exact ⟨_, rfl, (fun h => by first | rfl | (exfalso; omega)), fin1 H.out _ (by omega)⟩)
set_option maxRecDepth 100000 in
set_option maxHeartbeats 1000000 in
theorem scan_30a (T o n c : Nat) (F : Nat → Tk) (w : World) (hn : 0 < n) (hc : n ≤ c) (hm : c ≤ 9223372036854775807) (h : TokB w T o n F) (e1 : ((F 0).kd == 26) = false) (e2 : ((F 0).kd == 29) = false) (e3 : ((F 0).kd == 30) = true) (h3 : n < 3) :
    Calls Try.prog 30 #[.slice (some ⟨T, o, none⟩) n c] w (ScanP (some ⟨T, o, none⟩) T o n c F 1 w) := by
  obtain ⟨⟨-, -, -, -, -, k0, s0⟩, f0⟩ := h 0 (by omega)
  simp only [Nat.zero_mul, Nat.one_mul, Nat.add_zero, Nat.reduceMul] at k0 s0 f0
  have H := Lib.hid h
  clear h
  go_enter Try.func30, Try.ntmps30
  go_wp2
  go_quiet (fail)
  go_wp2
  all_goals (go_ret2; exact ⟨_, rfl, (fun h => by first | rfl | (exfalso; omega)), fin1 H.out _ (by omega)⟩)
set_option maxRecDepth 100000 in
set_option maxHeartbeats 1000000 in
theorem scan_30b (T o n c : Nat) (F : Nat → Tk) (w : World) (hn : 3 ≤ n) (hc : n ≤ c) (hm : c ≤ 9223372036854775807) (h : TokB w T o n F) (e1 : ((F 0).kd == 26) = false) (e2 : ((F 0).kd == 29) = false) (e3 : ((F 0).kd == 30) = true) (e4 : ((F 1).kd == 24) = false) :
    Calls Try.prog 30 #[.slice (some ⟨T, o, none⟩) n c] w (ScanP (some ⟨T, o, none⟩) T o n c F 1 w) := by
  obtain ⟨⟨-, -, -, -, -, k0, s0⟩, f0⟩ := h 0 (by omega)
  simp only [Nat.zero_mul, Nat.one_mul, Nat.add_zero, Nat.reduceMul] at k0 s0 f0
  obtain ⟨⟨-, -, -, -, -, k1, s1⟩, f1⟩ := h 1 (by omega)
  simp only [Nat.zero_mul, Nat.one_mul, Nat.add_zero, Nat.reduceMul] at k1 s1 f1
  have H := Lib.hid h
  clear h
  go_enter Try.func30, Try.ntmps30
  go_wp2
  go_quiet (fail)
  go_wp2
  all_goals (go_ret2; exact ⟨_, rfl, (fun h => by first | rfl | (exfalso; omega)), fin1 H.out _ (by omega)⟩)
set_option maxRecDepth 100000 in
set_option maxHeartbeats 1000000 in
theorem scan_30c (T o n c : Nat) (F : Nat → Tk) (w : World) (hn : 3 ≤ n) (hc : n ≤ c) (hm : c ≤ 9223372036854775807) (h : TokB w T o n F) (e1 : ((F 0).kd == 26) = false) (e2 : ((F 0).kd == 29) = false) (e3 : ((F 0).kd == 30) = true) (e4 : ((F 1).kd == 24) = true) (e5 : ((F 2).kd == 30) = false) :
    Calls Try.prog 30 #[.slice (some ⟨T, o, none⟩) n c] w (ScanP (some ⟨T, o, none⟩) T o n c F 1 w) := by
  obtain ⟨⟨-, -, -, -, -, k0, s0⟩, f0⟩ := h 0 (by omega)
  simp only [Nat.zero_mul, Nat.one_mul, Nat.add_zero, Nat.reduceMul] at k0 s0 f0
  obtain ⟨⟨-, -, -, -, -, k1, s1⟩, f1⟩ := h 1 (by omega)
  simp only [Nat.zero_mul, Nat.one_mul, Nat.add_zero, Nat.reduceMul] at k1 s1 f1
  obtain ⟨⟨-, -, -, -, -, k2, s2⟩, f2⟩ := h 2 (by omega)
  simp only [Nat.zero_mul, Nat.one_mul, Nat.add_zero, Nat.reduceMul] at k2 s2 f2
  have H := Lib.hid h
  clear h
  go_enter Try.func30, Try.ntmps30
  go_wp2
  go_quiet (fail)
  go_wp2
  all_goals (go_ret2; exact ⟨_, rfl, (fun h => by first | rfl | (exfalso; omega)), fin1 H.out _ (by omega)⟩)
set_option maxRecDepth 100000 in
set_option maxHeartbeats 1000000 in
theorem scan_30d (T o n c : Nat) (F : Nat → Tk) (w : World) (hn : 3 ≤ n) (hc : n ≤ c) (hm : c ≤ 9223372036854775807) (h : TokB w T o n F) (e1 : ((F 0).kd == 26) = false) (e2 : ((F 0).kd == 29) = false) (e3 : ((F 0).kd == 30) = true) (e4 : ((F 1).kd == 24) = true) (e5 : ((F 2).kd == 30) = true) :
    Calls Try.prog 30 #[.slice (some ⟨T, o, none⟩) n c] w (ScanP (some ⟨T, o, none⟩) T o n c F 3 w) := by
  obtain ⟨⟨-, -, -, -, -, k0, s0⟩, f0⟩ := h 0 (by omega)
  simp only [Nat.zero_mul, Nat.one_mul, Nat.add_zero, Nat.reduceMul] at k0 s0 f0
  obtain ⟨⟨-, -, -, -, -, k1, s1⟩, f1⟩ := h 1 (by omega)
  simp only [Nat.zero_mul, Nat.one_mul, Nat.add_zero, Nat.reduceMul] at k1 s1 f1
  obtain ⟨⟨-, -, -, -, -, k2, s2⟩, f2⟩ := h 2 (by omega)
  simp only [Nat.zero_mul, Nat.one_mul, Nat.add_zero, Nat.reduceMul] at k2 s2 f2
  have H := Lib.hid h
  clear h
  go_enter Try.func30, Try.ntmps30
  go_wp2
  go_quiet (fail)
  go_wp2
  all_goals (go_ret2; exact ⟨_, rfl, (fun h => by first | rfl | (exfalso; omega)), fin3 H.out _ (by omega)⟩)
theorem scan_c (A : Option Addr) (T o n c : Nat) (F : Nat → Tk) (w : World) (hA : 0 < n → A = some ⟨T, o, none⟩) (hA0 : A = none → c = 0) (hc : n ≤ c) (hm : c ≤ 9223372036854775807) (h : TokB w T o n F) :
    Calls Try.prog 30 #[.slice A n c] w (ScanP A T o n c F (sv n F) w) := by
  by_cases h0 : n = 0
  · subst h0
    have : sv 0 F = 0 := by have := sv_le 0 F; omega
    rw [this]
    exact scan_nil A T o c F w hA0 hm
  · have hn : 0 < n := by omega
    obtain rfl := hA hn
    by_cases e1 : (F 0).kd = 26
    · have : sv n F = 1 := by unfold sv; rw [if_pos ⟨hn, .inl e1⟩]
      rw [this]; exact scan_26 T o n c F w hn hc hm h (by simp [e1])
    · by_cases e2 : (F 0).kd = 29
      · have : sv n F = 1 := by unfold sv; rw [if_pos ⟨hn, .inr e2⟩]
        rw [this]; exact scan_29 T o n c F w hn hc hm h (by simp [e1]) (by simp [e2])
      · by_cases e3 : (F 0).kd = 30
        · by_cases h3 : 3 ≤ n
          · by_cases e4 : (F 1).kd = 24
            · by_cases e5 : (F 2).kd = 30
              · have : sv n F = 3 := by unfold sv; rw [if_neg (by omega), if_pos ⟨hn, e3⟩, if_pos ⟨h3, e4, e5⟩]
                rw [this]; exact scan_30d T o n c F w h3 hc hm h (by simp [e1]) (by simp [e2]) (by simp [e3]) (by simp [e4]) (by simp [e5])
              · have : sv n F = 1 := by unfold sv; rw [if_neg (by omega), if_pos ⟨hn, e3⟩, if_neg (fun h => e5 h.2.2)]
                rw [this]; exact scan_30c T o n c F w h3 hc hm h (by simp [e1]) (by simp [e2]) (by simp [e3]) (by simp [e4]) (by simp [e5])
            · have : sv n F = 1 := by unfold sv; rw [if_neg (by omega), if_pos ⟨hn, e3⟩, if_neg (fun h => e4 h.2.1)]
              rw [this]; exact scan_30b T o n c F w h3 hc hm h (by simp [e1]) (by simp [e2]) (by simp [e3]) (by simp [e4])
          · have : sv n F = 1 := by unfold sv; rw [if_neg (by omega), if_pos ⟨hn, e3⟩, if_neg (fun h => h3 h.1)]
            rw [this]; exact scan_30a T o n c F w hn hc hm h (by simp [e1]) (by simp [e2]) (by simp [e3]) (by omega)
        · have : sv n F = 0 := by unfold sv; rw [if_neg (by omega), if_neg (by omega)]
          rw [this]; exact scan_not T o n c F w hn hc hm h (by simp [e1]) (by simp [e2]) (by simp [e3])
end Go.Proofs.Ytpnfllnnbinbjaa
