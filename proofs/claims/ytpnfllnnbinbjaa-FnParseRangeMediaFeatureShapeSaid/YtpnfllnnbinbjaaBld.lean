/- FnScanMediaValueLooksAtMostThreeAhead: the builder of its tokens. -/
import Derived.Test.YtpnfllnnbinbjaaScan
set_option linter.unusedVariables false
set_option linter.unusedSimpArgs false
namespace Go.Proofs.Ytpnfllnnbinbjaa
open Go.RowKit
theorem TAt.setlo {w : World} {T o : Nat} {t : Tk} (h : TAt w T o t) (x : Int) : TAt (w.setCell ⟨T, o + 2, none⟩ (.int .i32 x)) T o { t with lo := x } := by
  have ne : ∀ {i j : Nat}, i ≠ j → (⟨T, i, none⟩ : Addr) ≠ ⟨T, j, none⟩ := fun h e => h (by injection e)
  obtain ⟨c0, c1, c2, c3, c4, c5, c6⟩ := h
  exact ⟨by rw [co (ne (by omega))]; exact c0, by rw [co (ne (by omega))]; exact c1, cs c2, by rw [co (ne (by omega))]; exact c3, by rw [co (ne (by omega))]; exact c4, by rw [co (ne (by omega))]; exact c5, by rw [co (ne (by omega))]; exact c6⟩
theorem make27 (n : Nat) (hn : n ≤ 1048576) : ∃ z : Array Value, ∀ W : World, (Instr.makeSlice 27 (.int .i64 n) (.int .i64 n)).run Try.prog W = .ok (.slice (some ⟨W.heap.size, 0, none⟩) n n) (W.alloc (.cells (madeCells z (n * 7)) 54)) :=
  make_any (b := 40) Try.underlying27 (by kernel_rfl) n hn (by omega)
def bF (tx : ByteArray) (K S : Nat → Int) (n1 : Nat) (i : Nat) : Tk := ⟨.pointer none, tx, i, i, 0, K i, if i < n1 then S i else 0⟩
structure Fill (w : World) (T n : Nat) (F : Nat → Tk) (k : Nat) (wr : World) : Prop where
  below : Below T w wr
  size : T < wr.heap.size
  tok : ∀ i, i < k → TAt wr T (i * 7) (F i)
  room : Room wr T (n * 7)
set_option maxRecDepth 100000 in
theorem Fill.step {w wr : World} {T n k : Nat} {F : Nat → Tk} (h : Fill w T n F k wr) (hk : k < n) (l0 : Int) :
    Fill w T n F (k + 1) ((((((((wr.setCell ⟨T, k * 7, none⟩ (F k).ch).setCell ⟨T, k * 7 + 1, none⟩ (.string (F k).tx)).setCell ⟨T, k * 7 + 2, none⟩ (.int .i32 l0)).setCell ⟨T, k * 7 + 3, none⟩ (.int .u32 (F k).pl)).setCell ⟨T, k * 7 + 4, none⟩ (.int .u16 (F k).uo)).setCell ⟨T, k * 7 + 5, none⟩ (.int .u8 (F k).kd)).setCell ⟨T, k * 7 + 6, none⟩ (.int .u8 (F k).ws)).setCell ⟨T, k * 7 + 2, none⟩ (.int .i32 (F k).lo)) := by
  obtain ⟨hb, hz, ht, hr⟩ := h
  obtain ⟨v0, c0, -⟩ := hr (k * 7) (by omega)
  obtain ⟨v1, c1, -⟩ := hr (k * 7 + 1) (by omega)
  obtain ⟨v2, c2, -⟩ := hr (k * 7 + 2) (by omega)
  obtain ⟨v3, c3, -⟩ := hr (k * 7 + 3) (by omega)
  obtain ⟨v4, c4, -⟩ := hr (k * 7 + 4) (by omega)
  obtain ⟨v5, c5, -⟩ := hr (k * 7 + 5) (by omega)
  obtain ⟨v6, c6, -⟩ := hr (k * 7 + 6) (by omega)
  refine ⟨?_, ?_, ?_, ((((((((hr.set _ _).set _ _).set _ _).set _ _).set _ _).set _ _).set _ _).set _ _)⟩
  · iterate 8 (refine Below.setCell ?_ (by simp) _)
    exact hb
  · simpa [World.setCell] using hz
  · intro i hi
    by_cases e : i = k
    · subst e
      exact (TAt.made { F i with lo := l0 } c0 c1 c2 c3 c4 c5 c6).setlo (F i).lo
    · have := ht i (by omega)
      iterate 8 (refine TAt.far ?_ (.inr (.inr (by dsimp only; omega))))
      exact this
def BuiltP (w : World) (n : Nat) (F : Nat → Tk) (e : Ending) (w' : World) : Prop := ∃ T, e = .returned (.slice (some ⟨T, 0, none⟩) n n) ∧ w.heap.size ≤ T ∧ T < w'.heap.size ∧ TokB w' T 0 n F ∧ Below w.heap.size w w'
theorem Fill.built {w wr : World} {n : Nat} {F : Nat → Tk} {T : Nat} (h : Fill w T n F n wr) : TokB wr T 0 n F := fun i hi => by
  obtain ⟨v6, c6, f6⟩ := h.room (i * 7 + 6) (by omega)
  rw [Nat.zero_add]; exact ⟨h.tok i hi, f6⟩
set_option maxRecDepth 100000 in
set_option maxHeartbeats 2000000 in
theorem build17_c (A0 A1 : Option Addr) (n c0 n1 c1 : Nat) (tx : ByteArray) (K S : Nat → Int) (w : World) (hn : n ≤ 65536) (hn1 : n1 ≤ 65536) (r0 : Row .u8 w A0 n K) (r1 : Row .u8 w A1 n1 S) :
    Calls Try.prog 17 #[.slice A0 n c0, .slice A1 n1 c1, .string tx] w (BuiltP w n (bF tx K S n1)) := by
  obtain ⟨z, hmk⟩ := make27 n (by omega)
  have R0 := Lib.hid r0; have R1 := Lib.hid r1
  clear r0 r1
  go_enter Try.func17, Try.ntmps17
  go_wp2
  have H0 : Fill w w.heap.size n (bF tx K S n1) 0 (w.alloc (.cells (madeCells z (n * 7)) 54)) := ⟨(Below.refl _ _).alloc (Nat.le_refl _) _, by simp, fun i hi => by omega, Room.made _ _ _ _⟩
  clear hmk
  go_loopw [8] (fun i wr => ∃ k : Nat, k ≤ n ∧ i = .int .i64 k ∧ Fill w w.heap.size n (bF tx K S n1) k wr) (fun i _ => n - (intOf i).toNat)
  case atStart => exact ⟨0, by omega, rfl, H0⟩
  case round =>
    obtain ⟨k, hk, rfl, HF⟩ := hrel
    clear H0
    by_cases hlt : k < n
    · obtain ⟨x0, rfl, q0⟩ := (R0.out.after HF.below) k hlt
      obtain ⟨v0, c0, f0⟩ := HF.room (k * 7) (by omega)
      obtain ⟨v1, c1, f1⟩ := HF.room (k * 7 + 1) (by omega)
      obtain ⟨v2, c2, f2⟩ := HF.room (k * 7 + 2) (by omega)
      obtain ⟨v3, c3, f3⟩ := HF.room (k * 7 + 3) (by omega)
      obtain ⟨v4, c4, f4⟩ := HF.room (k * 7 + 4) (by omega)
      obtain ⟨v5, c5, f5⟩ := HF.room (k * 7 + 5) (by omega)
      obtain ⟨v6, c6, f6⟩ := HF.room (k * 7 + 6) (by omega)
      by_cases hs : k < n1
      · obtain ⟨x1, rfl, q1⟩ := (R1.out.after HF.below) k hs
        have E := Lib.hid (show (bF tx K S n1 k).ws = S k from if_pos hs)
        have HS := Lib.hid (HF.step hlt 0)
        clear HF
        go_wp2
        refine ⟨⟨k + 1, by omega, by go_num, ?_⟩, by simp [intOf]; omega⟩
        have := HS.out
        rw [E.out] at this
        exact this
      · have E := Lib.hid (show (bF tx K S n1 k).ws = 0 from if_neg hs)
        have HS := Lib.hid (HF.step hlt 0)
        clear HF
        go_wp2
        refine ⟨⟨k + 1, by omega, by go_num, ?_⟩, by simp [intOf]; omega⟩
        have := HS.out
        rw [E.out] at this
        exact this
    · obtain rfl : k = n := by omega
      go_wp2
      go_ret
      exact ⟨w.heap.size, rfl, Nat.le_refl _, HF.size, HF.built, HF.below⟩
end Go.Proofs.Ytpnfllnnbinbjaa
