/- parsePlainOrBooleanMediaFeature, and the builder of its tokens. -/
import Derived.Test.YtpnfllnnbinbjaaBld
import Derived.Test.YtpnfllnnbinbjaaArg
import Derived.WalkSpells
set_option linter.unusedVariables false
set_option linter.unusedSimpArgs false
namespace Go.Proofs.Ytpnfllnnbinbjaa
open Go.RowKit
def kof (c : Int) : Int := if c % 7 = 0 then 29 else if c % 7 = 1 then 9 else if c % 7 = 2 then 30 else if c % 7 = 3 then 26 else if c % 7 = 4 then 24 else if c % 7 = 5 then 38 else 10
set_option maxRecDepth 100000 in
set_option maxHeartbeats 2000000 in
theorem kind26_c (c : Int) (w : World) (h0 : 0 ≤ c) (h1 : c ≤ 255) : Calls Try.prog 26 #[.int .u8 c] w fun e w' => e = .returned (.int .u8 (kof c)) ∧ w = w' := by
  go_enter Try.func26, Try.ntmps26
  go_wp2
  all_goals
    go_ret
    refine ⟨?_, rfl⟩
    unfold kof
    simp_all
def txt (n : Nat) (X : Nat → ByteArray) (i : Nat) : ByteArray := if i < n then X i else ⟨#[]⟩
set_option maxRecDepth 100000 in
set_option maxHeartbeats 2000000 in
theorem text27_c (A : Option Addr) (n c i : Nat) (X : Nat → ByteArray) (w : World) (h : RowS w A n X) (hi : i ≤ 1048576) : Calls Try.prog 27 #[.slice A n c, .int .i64 i] w fun e w' => e = .returned (.string (txt n X i)) ∧ w = w' := by
  by_cases hlt : i < n
  · obtain ⟨x, rfl, hc⟩ := h i hlt
    have e : txt n X i = X i := if_pos hlt
    rw [e]
    clear e h
    have i0 : (0 : Int) ≤ i := by omega
    have i1 : (i : Int) < n := by omega
    go_enter Try.func27, Try.ntmps27
    go_wp2
    go_ret
    exact ⟨rfl, rfl⟩
  · have e : txt n X i = ⟨#[]⟩ := if_neg hlt
    rw [e]
    clear e h
    go_enter Try.func27, Try.ntmps27
    go_wp2
    go_ret
    exact ⟨rfl, rfl⟩
set_option maxRecDepth 100000 in
set_option maxHeartbeats 2000000 in
theorem byte29_c (i : Nat) (w : World) (hi : i ≤ 1048576) : Calls Try.prog 29 #[.slice none 0 0, .int .i64 i] w fun e w' => e = .returned (.int .u8 0) ∧ w = w' := by
  go_enter Try.func29, Try.ntmps29
  go_wp2
  go_ret
  exact ⟨rfl, rfl⟩
set_option maxRecDepth 100000 in
set_option maxHeartbeats 2000000 in
theorem flags28_c (w : World) : Calls Try.prog 28 #[.int .u8 0] w fun e w' => e = .returned (.int .u8 0) ∧ w = w' := by
  go_enter Try.func28, Try.ntmps28
  go_wp2
  go_ret
  exact ⟨rfl, rfl⟩
def pF (n1 : Nat) (X : Nat → ByteArray) (K : Nat → Int) (i : Nat) : Tk := ⟨.pointer none, txt n1 X i, 0, 0, 0, kof (K i), 0⟩
structure Fill0 (w : World) (T n : Nat) (F : Nat → Tk) (k : Nat) (wr : World) : Prop where
  below : Below T w wr
  size : T < wr.heap.size
  tok : ∀ i, i < k → TAt wr T (i * 7) (F i)
  room : Room wr T (n * 7)
theorem Fill0.step {w wr : World} {T n k : Nat} {F : Nat → Tk} (h : Fill0 w T n F k wr) (hk : k < n) :
    Fill0 w T n F (k + 1) (((((((wr.setCell ⟨T, k * 7, none⟩ (F k).ch).setCell ⟨T, k * 7 + 1, none⟩ (.string (F k).tx)).setCell ⟨T, k * 7 + 2, none⟩ (.int .i32 (F k).lo)).setCell ⟨T, k * 7 + 3, none⟩ (.int .u32 (F k).pl)).setCell ⟨T, k * 7 + 4, none⟩ (.int .u16 (F k).uo)).setCell ⟨T, k * 7 + 5, none⟩ (.int .u8 (F k).kd)).setCell ⟨T, k * 7 + 6, none⟩ (.int .u8 (F k).ws)) := by
  obtain ⟨hb, hz, ht, hr⟩ := h
  obtain ⟨v0, c0, -⟩ := hr (k * 7) (by omega)
  obtain ⟨v1, c1, -⟩ := hr (k * 7 + 1) (by omega)
  obtain ⟨v2, c2, -⟩ := hr (k * 7 + 2) (by omega)
  obtain ⟨v3, c3, -⟩ := hr (k * 7 + 3) (by omega)
  obtain ⟨v4, c4, -⟩ := hr (k * 7 + 4) (by omega)
  obtain ⟨v5, c5, -⟩ := hr (k * 7 + 5) (by omega)
  obtain ⟨v6, c6, -⟩ := hr (k * 7 + 6) (by omega)
  refine ⟨?_, ?_, ?_, (((((((hr.set _ _).set _ _).set _ _).set _ _).set _ _).set _ _).set _ _)⟩
  · iterate 7 (refine Below.setCell ?_ (by simp) _)
    exact hb
  · simpa [World.setCell] using hz
  · intro i hi
    by_cases e : i = k
    · subst e
      exact TAt.made (F i) c0 c1 c2 c3 c4 c5 c6
    · have := ht i (by omega)
      iterate 7 (refine TAt.far ?_ (.inr (.inr (by dsimp only; omega))))
      exact this
theorem Fill0.built {w wr : World} {n : Nat} {F : Nat → Tk} {T : Nat} (h : Fill0 w T n F n wr) : TokB wr T 0 n F := fun i hi => by
  obtain ⟨v6, c6, f6⟩ := h.room (i * 7 + 6) (by omega)
  rw [Nat.zero_add]; exact ⟨h.tok i hi, f6⟩
/-- a list of tokens that was built: nil, or in a block of its own -/
def FeatP (w : World) (n : Nat) (F : Nat → Tk) (e : Ending) (w' : World) : Prop := ∃ A T, e = .returned (.slice A n n) ∧ (0 < n → A = some ⟨T, 0, none⟩) ∧ (A = none → n = 0) ∧ w.heap.size ≤ T ∧ (0 < n → T < w'.heap.size) ∧ TokB w' T 0 n F ∧ Below w.heap.size w w'
set_option maxRecDepth 100000 in
set_option maxHeartbeats 2000000 in
theorem feat15_nil (A1 : Option Addr) (n1 c1 : Nat) (X : Nat → ByteArray) (K : Nat → Int) (w : World) :
    Calls Try.prog 15 #[.slice none 0 0, .slice A1 n1 c1, .slice none 0 0] w (FeatP w 0 (pF n1 X K)) := by
  have hq := fun W => Lib.run_eql_slice_nil (P := Try.prog) W 31 5 none 0 0 0 0 Try.underlying31
  go_enter Try.func15, Try.ntmps15
  go_wp2
  go_ret
  exact ⟨none, w.heap.size, rfl, (fun h => absurd h (by omega)), fun _ => rfl, Nat.le_refl _, (fun h => absurd h (by omega)), fun i hi => absurd hi (by omega), Below.refl _ _⟩
set_option maxRecDepth 100000 in
set_option maxHeartbeats 2000000 in
theorem feat15_some (x : Addr) (A1 : Option Addr) (n c n1 cc1 : Nat) (X : Nat → ByteArray) (K : Nat → Int) (w : World) (hn : n ≤ 1048576) (r0 : Row .u8 w (some x) n K) (r1 : RowS w A1 n1 X) (hK : ∀ i, i < n → 0 ≤ K i ∧ K i ≤ 255) :
    Calls Try.prog 15 #[.slice (some x) n c,   .slice A1 n1 cc1, .slice none 0 0] w (FeatP w n (pF n1 X K)) := by
  obtain ⟨z, hmk⟩ := make27 n (by omega)
  have R0 := Lib.hid r0; have R1 := Lib.hid r1; have HK := Lib.hid hK
  clear r0 r1 hK
  have hq := fun W => Lib.run_eql_slice_nil (P := Try.prog) W 31 5 (some x) n c 0 0 Try.underlying31
  go_enter Try.func15, Try.ntmps15
  go_wp2
  have H0 : Fill0 w w.heap.size n (pF n1 X K) 0 (w.alloc (.cells (madeCells z (n * 7)) 54)) := ⟨(Below.refl _ _).alloc (Nat.le_refl _) _, by simp, fun i hi => by omega, Room.made _ _ _ _⟩
  clear hmk hq
  go_loopw [8] (fun i wr => ∃ k : Nat, k ≤ n ∧ i = .int .i64 k ∧ Fill0 w w.heap.size n (pF n1 X K) k wr) (fun i _ => n - (intOf i).toNat)
  case atStart => exact ⟨0, by omega, rfl, H0⟩
  case round =>
    obtain ⟨k, hk, rfl, HF⟩ := hrel
    clear H0
    by_cases hlt : k < n
    · obtain ⟨y, hy, q0⟩ := (R0.out.after HF.below) k hlt
      cases hy
      obtain ⟨v0, c0, f0⟩ := HF.room (k * 7) (by omega)
      obtain ⟨v1, c1, f1⟩ := HF.room (k * 7 + 1) (by omega)
      obtain ⟨v2, c2, f2⟩ := HF.room (k * 7 + 2) (by omega)
      obtain ⟨v3, c3, f3⟩ := HF.room (k * 7 + 3) (by omega)
      obtain ⟨v4, c4, f4⟩ := HF.room (k * 7 + 4) (by omega)
      obtain ⟨v5, c5, f5⟩ := HF.room (k * 7 + 5) (by omega)
      obtain ⟨v6, c6, f6⟩ := HF.room (k * 7 + 6) (by omega)
      have C27 := Lib.hid (text27_c A1 n1 cc1 k X wr (R1.out.after HF.below) (by omega))
      have HS := Lib.hid (HF.step hlt)
      clear HF
      obtain ⟨K0, K1⟩ := HK.out k hlt
      go_wp2_with (first | (go_at_call 26; (with_reducible refine (kind26_c _ _ K0 K1).mono ?_); rintro e w' ⟨rfl, rfl⟩) | (go_at_call 27; (with_reducible refine C27.out.mono ?_); rintro e w' ⟨rfl, rfl⟩) | (go_at_call 29; (with_reducible refine (byte29_c k _ (by omega)).mono ?_); rintro e w' ⟨rfl, rfl⟩) | (go_at_call 28; (with_reducible refine (flags28_c _).mono ?_); rintro e w' ⟨rfl, rfl⟩))
      exact ⟨⟨k + 1, by omega, by go_num, HS.out⟩, by simp [intOf]; omega⟩
    · obtain rfl : k = n := by omega
      go_wp2
      go_ret
      exact ⟨_, w.heap.size, rfl, fun _ => rfl, (fun h => by cases h), Nat.le_refl _, fun _ => HF.size, HF.built, HF.below⟩
theorem TokB.shift {w : World} {T o n : Nat} {F : Nat → Tk} (h : TokB w T o n F) (m : Nat) : TokB w T (o + m * 7) (n - m) (fun i => F (i + m)) := fun i hi => by
  have := h (i + m) (by omega)
  rw [show o + (i + m) * 7 = o + m * 7 + i * 7 by omega] at this
  exact this
def okP (n : Nat) (F : Nat → Tk) : Prop := (n = 1 ∧ (F 0).kd = 29) ∨ (3 ≤ n ∧ (F 0).kd = 29 ∧ (F 1).kd = 9 ∧ sv (n - 2) (fun i => F (i + 2)) = n - 2)
theorem okP_n {n : Nat} {F : Nat → Tk} (h : okP n F) : n = 1 ∨ n = 3 ∨ n = 5 := by
  rcases h with ⟨h, _⟩ | ⟨h, _, _, h'⟩
  · exact .inl h
  · rcases sv_or (n - 2) (fun i => F (i + 2)) with e | e | e <;> omega
theorem okP_kinds {n : Nat} {F G : Nat → Tk} (h : ∀ i, (F i).kd = (G i).kd) : okP n F ↔ okP n G := by
  unfold okP sv
  simp only [h]
def ParseP (T n : Nat) (F : Nat → Tk) (w : World) (e : Ending) (w' : World) : Prop :=
  ((¬ okP n F ∧ e = .returned (.tuple #[.pointer none, .bool false])) ∨ (okP n F ∧ ∃ q A' m c', e = .returned (.tuple #[.pointer (some ⟨q, 0, none⟩), .bool true]) ∧ w'.cell? ⟨q, 0, none⟩ = some (.string (F 0).tx) ∧ w'.cell? ⟨q, 1, none⟩ = some (.slice A' m c') ∧ m = (if 1 < n then n - 2 else 0) ∧ w.heap.size ≤ q)) ∧ Only (fun x => x = T) w w'
set_option maxRecDepth 100000 in
set_option maxHeartbeats 2000000 in
theorem parse_lt (A : Option Addr) (T n : Nat) (F : Nat → Tk) (w : World) (hm : n ≤ 1048576) (hA : 0 < n → A = some ⟨T, 0, none⟩) (hA0 : A = none → n = 0) (h : TokB w T 0 n F) (h1 : n ≠ 1) (h3 : n < 3) : Calls Try.prog 25 #[.slice A n n] w (ParseP T n F w) := by
  have ho := Lib.hid (show ¬ okP n F by rintro (⟨e, _⟩ | ⟨e, _⟩) <;> omega)
  have hq : ((n : Int) == 1) = false := by simp; omega
  clear h hA hA0
  go_enter Try.func25, Try.ntmps25
  go_wp2
  go_ret2
  exact ⟨.inl ⟨ho.out, rfl⟩, Only.refl _⟩
set_option maxRecDepth 100000 in
set_option maxHeartbeats 2000000 in
theorem parse_1y (A : Option Addr) (T n : Nat) (F : Nat → Tk) (w : World) (hm : n ≤ 1048576) (hA : 0 < n → A = some ⟨T, 0, none⟩) (hA0 : A = none → n = 0) (h : TokB w T 0 n F) (h1 : n = 1) (e0 : (F 0).kd = 29) : Calls Try.prog 25 #[.slice A n n] w (ParseP T n F w) := by
  subst h1
  obtain ⟨⟨-, x0, -, -, -, k0, -⟩, -⟩ := h 0 (by omega)
  simp only [Nat.zero_mul, Nat.zero_add] at k0 x0
  obtain rfl := hA (by omega)
  have ho := Lib.hid (show okP 1 F from .inl ⟨rfl, e0⟩)
  have hq : ((F 0).kd == 29) = true := by simp [e0]
  clear h hA hA0 e0
  go_enter Try.func25, Try.ntmps25
  go_wp2
  go_ret2
  exact ⟨.inr ⟨ho.out, w.heap.size, none, 0, 0, rfl, by simp [go_sem], by simp [go_sem], rfl, Nat.le_refl _⟩, Only.of (ba _ _)⟩
set_option maxRecDepth 100000 in
set_option maxHeartbeats 2000000 in
theorem parse_1n (A : Option Addr) (T n : Nat) (F : Nat → Tk) (w : World) (hm : n ≤ 1048576) (hA : 0 < n → A = some ⟨T, 0, none⟩) (hA0 : A = none → n = 0) (h : TokB w T 0 n F) (h1 : n = 1) (e0 : (F 0).kd ≠ 29) : Calls Try.prog 25 #[.slice A n n] w (ParseP T n F w) := by
  subst h1
  obtain ⟨⟨-, x0, -, -, -, k0, -⟩, -⟩ := h 0 (by omega)
  simp only [Nat.zero_mul, Nat.zero_add] at k0 x0
  obtain rfl := hA (by omega)
  have ho := Lib.hid (show ¬ okP 1 F by rintro (⟨_, e⟩ | ⟨e, _⟩); exact e0 e; omega)
  have hq : ((F 0).kd == 29) = false := by simp [e0]
  clear h hA hA0 e0
  go_enter Try.func25, Try.ntmps25
  go_wp2
  go_ret2
  exact ⟨.inl ⟨ho.out, rfl⟩, Only.refl _⟩
set_option maxRecDepth 100000 in
set_option maxHeartbeats 2000000 in
theorem parse_3a (A : Option Addr) (T n : Nat) (F : Nat → Tk) (w : World) (hm : n ≤ 1048576) (hA : 0 < n → A = some ⟨T, 0, none⟩) (hA0 : A = none → n = 0) (h : TokB w T 0 n F) (h3 : 3 ≤ n) (e0 : (F 0).kd ≠ 29) : Calls Try.prog 25 #[.slice A n n] w (ParseP T n F w) := by
  obtain ⟨⟨-, x0, -, -, -, k0, -⟩, -⟩ := h 0 (by omega)
  simp only [Nat.zero_mul, Nat.zero_add] at k0 x0
  obtain rfl := hA (by omega)
  have ho := Lib.hid (show ¬ okP n F by rintro (⟨_, e⟩ | ⟨_, e, _⟩) <;> exact e0 e)
  have hq : ((F 0).kd == 29) = false := by simp [e0]
  have hq1 : ((n : Int) == 1) = false := by simp; omega
  clear h hA hA0 e0
  go_enter Try.func25, Try.ntmps25
  go_wp2
  go_ret2
  exact ⟨.inl ⟨ho.out, rfl⟩, Only.refl _⟩
set_option maxRecDepth 100000 in
set_option maxHeartbeats 2000000 in
theorem parse_3b (A : Option Addr) (T n : Nat) (F : Nat → Tk) (w : World) (hm : n ≤ 1048576) (hA : 0 < n → A = some ⟨T, 0, none⟩) (hA0 : A = none → n = 0) (h : TokB w T 0 n F) (h3 : 3 ≤ n) (e0 : (F 0).kd = 29) (e1 : (F 1).kd ≠ 9) : Calls Try.prog 25 #[.slice A n n] w (ParseP T n F w) := by
  obtain ⟨⟨-, x0, -, -, -, k0, -⟩, -⟩ := h 0 (by omega)
  simp only [Nat.zero_mul, Nat.zero_add] at k0 x0
  obtain ⟨⟨-, -, -, -, -, k1, -⟩, -⟩ := h 1 (by omega)
  simp only [Nat.one_mul, Nat.zero_add] at k1
  obtain rfl := hA (by omega)
  have ho := Lib.hid (show ¬ okP n F by rintro (⟨e, _⟩ | ⟨_, _, e, _⟩); omega; exact e1 e)
  have hq : ((F 0).kd == 29) = true := by simp [e0]
  have hq1 : ((n : Int) == 1) = false := by simp; omega
  have hq2 : ((F 1).kd == 9) = false := by simp [e1]
  clear h hA hA0 e0 e1
  go_enter Try.func25, Try.ntmps25
  go_wp2
  go_ret2
  exact ⟨.inl ⟨ho.out, rfl⟩, Only.refl _⟩
set_option maxRecDepth 100000 in
set_option maxHeartbeats 2000000 in
theorem parse_3c (A : Option Addr) (T n : Nat) (F : Nat → Tk) (w : World) (hm : n ≤ 1048576) (hA : 0 < n → A = some ⟨T, 0, none⟩) (hA0 : A = none → n = 0) (h : TokB w T 0 n F) (h3 : 3 ≤ n) (e0 : (F 0).kd = 29) (e1 : (F 1).kd = 9) (e2 : sv (n - 2) (fun i => F (i + 2)) ≠ n - 2) : Calls Try.prog 25 #[.slice A n n] w (ParseP T n F w) := by
  obtain ⟨⟨-, x0, -, -, -, k0, -⟩, -⟩ := h 0 (by omega)
  simp only [Nat.zero_mul, Nat.zero_add] at k0 x0
  obtain ⟨⟨-, -, -, -, -, k1, -⟩, -⟩ := h 1 (by omega)
  simp only [Nat.one_mul, Nat.zero_add] at k1
  obtain rfl := hA (by omega)
  have hq : ((F 0).kd == 29) = true := by simp [e0]
  have hq1 : ((n : Int) == 1) = false := by simp; omega
  have hq2 : ((F 1).kd == 9) = true := by simp [e1]
  have hqn : ¬ n = 2 := by omega
  obtain ⟨s, hs⟩ : ∃ s, s = sv (n - 2) (fun i => F (i + 2)) := ⟨_, rfl⟩
  have hsl : s ≤ n - 2 := by rw [hs]; exact sv_le _ _
  have C := scan_c (some ⟨T, 14, none⟩) T 14 (n - 2) (n - 2) (fun i => F (i + 2)) w (fun _ => rfl) (fun h => by cases h) (Nat.le_refl _) (by omega) (h.shift 2)
  rw [← hs] at C
  have C' := Lib.hid C
  have tx := Lib.hid x0
  clear C
  have ho := Lib.hid (show ¬ okP n F by rintro (⟨e, _⟩ | ⟨_, _, _, e⟩); omega; exact e2 e)
  have hz : ¬ n - 2 - s = 0 := by rw [← hs] at e2; omega
  have hz' : (((n - 2 - s : Nat) : Int) == 0) = false := by simp; omega
  clear h hA hA0 e0 e1 e2 hs
  go_enter Try.func25, Try.ntmps25
  go_wp2_with (go_at_call 30; (with_reducible refine C'.out.mono ?_); rintro e w' ⟨A', rfl, -, -, hfr⟩; replace hfr := Lib.hid hfr)
  go_ret2
  exact ⟨.inl ⟨ho.out, rfl⟩, hfr.out.only⟩
set_option maxRecDepth 100000 in
set_option maxHeartbeats 2000000 in
theorem parse_3d (A : Option Addr) (T n : Nat) (F : Nat → Tk) (w : World) (hm : n ≤ 1048576) (hA : 0 < n → A = some ⟨T, 0, none⟩) (hA0 : A = none → n = 0) (h : TokB w T 0 n F) (h3 : 3 ≤ n) (e0 : (F 0).kd = 29) (e1 : (F 1).kd = 9) (e2 : sv (n - 2) (fun i => F (i + 2)) = n - 2) : Calls Try.prog 25 #[.slice A n n] w (ParseP T n F w) := by
  obtain ⟨⟨-, x0, -, -, -, k0, -⟩, -⟩ := h 0 (by omega)
  simp only [Nat.zero_mul, Nat.zero_add] at k0 x0
  obtain ⟨⟨-, -, -, -, -, k1, -⟩, -⟩ := h 1 (by omega)
  simp only [Nat.one_mul, Nat.zero_add] at k1
  obtain rfl := hA (by omega)
  have hq : ((F 0).kd == 29) = true := by simp [e0]
  have hq1 : ((n : Int) == 1) = false := by simp; omega
  have hq2 : ((F 1).kd == 9) = true := by simp [e1]
  have hqn : ¬ n = 2 := by omega
  obtain ⟨s, hs⟩ : ∃ s, s = sv (n - 2) (fun i => F (i + 2)) := ⟨_, rfl⟩
  have hsl : s ≤ n - 2 := by rw [hs]; exact sv_le _ _
  have C := scan_c (some ⟨T, 14, none⟩) T 14 (n - 2) (n - 2) (fun i => F (i + 2)) w (fun _ => rfl) (fun h => by cases h) (Nat.le_refl _) (by omega) (h.shift 2)
  rw [← hs] at C
  have C' := Lib.hid C
  have tx := Lib.hid x0
  clear C
  have ho := Lib.hid (show okP n F from .inr ⟨h3, e0, e1, e2⟩)
  obtain rfl : s = n - 2 := by rw [hs]; exact e2
  clear h hA hA0 e0 e1 e2 hs
  go_enter Try.func25, Try.ntmps25
  go_wp2_with (go_at_call 30; (with_reducible refine C'.out.mono ?_); rintro e w' ⟨A', rfl, -, -, hfr⟩; have y0 := (hfr.cell ⟨T, 1, none⟩ (by simp)).trans tx.out; replace hfr := Lib.hid hfr)
  go_ret2
  exact ⟨.inr ⟨ho.out, w'.heap.size, some ⟨T, 14, none⟩, n - 2, n - 2, rfl, by simp [go_sem], by simp [go_sem], by rw [if_pos (by omega)], hfr.out.only.size⟩, hfr.out.only.trans (Only.of (ba _ _))⟩
theorem parse25_c (A : Option Addr) (T n : Nat) (F : Nat → Tk) (w : World) (hm : n ≤ 1048576) (hA : 0 < n → A = some ⟨T, 0, none⟩) (hA0 : A = none → n = 0) (h : TokB w T 0 n F) : Calls Try.prog 25 #[.slice A n n] w (ParseP T n F w) := by
  by_cases h1 : n = 1
  · by_cases e0 : (F 0).kd = 29
    · exact parse_1y A T n F w hm hA hA0 h h1 e0
    · exact parse_1n A T n F w hm hA hA0 h h1 e0
  · by_cases h3 : n < 3
    · exact parse_lt A T n F w hm hA hA0 h h1 h3
    · by_cases e0 : (F 0).kd = 29
      · by_cases e1 : (F 1).kd = 9
        · by_cases e2 : sv (n - 2) (fun i => F (i + 2)) = n - 2
          · exact parse_3d A T n F w hm hA hA0 h (by omega) e0 e1 e2
          · exact parse_3c A T n F w hm hA hA0 h (by omega) e0 e1 e2
        · exact parse_3b A T n F w hm hA hA0 h (by omega) e0 e1
      · exact parse_3a A T n F w hm hA hA0 h (by omega) e0
end Go.Proofs.Ytpnfllnnbinbjaa
