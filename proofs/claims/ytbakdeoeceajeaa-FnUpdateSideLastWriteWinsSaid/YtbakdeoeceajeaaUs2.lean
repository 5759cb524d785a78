/- boxTracker.updateSide: contracts of the law's own functions. -/
import Derived.Test.YtbakdeoeceajeaaUs
set_option linter.unusedVariables false
set_option linter.unusedSimpArgs false
namespace Go.Proofs.Ytbakdeoeceajeaa
open Go.RowKit
set_option maxRecDepth 100000 in
set_option maxHeartbeats 1000000 in
theorem upd10_c (b k R n i : Nat) (O S : Sd) (w : World) (h : Room w b 48) (hr : Room w R (n * 2)) (hk : k < 4) (ho : SAt w b (1 + k * 11) O) (hO : O.ix = i) (hi : i < n) (hn : n ≤ 4096) (hbR : b ≠ R) :
    Calls Try.prog 10 #[.pointer (some ⟨b, 0, none⟩), .slice (some ⟨R, 0, none⟩) n n, .int .i64 k, S.val] w (PutP (fun x => x = b ∨ x = R) b k S w) := by
  have C := fun o => upd13_c b k R n i O S (w.alloc o) (h.after (ba w o)) (hr.after (ba w o)) hk (ho.after (ba w o)) hO hi hn hbR
  have C' := Lib.hid C
  clear C h hr ho hO
  go_enter Try.func10, Try.ntmps10
  go_wp2_with (go_at_call 13; (with_reducible refine (C'.out _).mono ?_); rintro e w' ⟨rfl, hp, ho⟩; replace hp := Lib.hid hp; replace ho := Lib.hid ho)
  go_end0
  exact ⟨rfl, hp.out.old (ba _ _), (Only.of (ba _ _)).trans ho.out⟩
def RulesP (w : World) (n : Nat) (e : Ending) (w' : World) : Prop := ∃ T, e = .returned (.slice (some ⟨T, 0, none⟩) n n) ∧ w.heap.size ≤ T ∧ Room w' T (n * 2) ∧ Below w.heap.size w w'
set_option maxRecDepth 100000 in
set_option maxHeartbeats 1000000 in
theorem rules9_c (n : Nat) (w : World) (hn : n ≤ 4096) : Calls Try.prog 9 #[.int .i64 n] w (RulesP w n) := by
  obtain ⟨z, hmk⟩ := make_any (b := 24) Try.underlying45 (show (Try.prog.info? 58).map (fun i => (i.zero.isSome, i.size, i.bytes)) = some (true, 2, 24) by kernel_rfl) n (by omega) (by omega)
  go_enter Try.func9, Try.ntmps9
  go_wp2
  have H0 : Room (w.alloc (.cells (madeCells z (n * 2)) 58)) w.heap.size (n * 2) := Room.made _ _ _ _
  clear hmk
  go_loopw [4] (fun i wr => ∃ k : Nat, k ≤ n ∧ i = .int .i64 k ∧ Room wr w.heap.size (n * 2) ∧ Below w.heap.size w wr) (fun i _ => n - (intOf i).toNat)
  case atStart => exact ⟨0, by omega, rfl, H0, ba _ _⟩
  case round =>
    obtain ⟨k, hk, rfl, hr, hb⟩ := hrel
    clear H0
    by_cases hlt : k < n
    · obtain ⟨v, c1, f1⟩ := hr (k * 2 + 1) (by omega)
      have HR := Lib.hid hr
      clear hr
      go_wp2
      exact ⟨⟨k + 1, by omega, by go_num, HR.out.set _ _, hb.setCell (by simp) _⟩, by simp [intOf]; omega⟩
    · obtain rfl : k = n := by omega
      go_wp2
      go_ret
      exact ⟨_, rfl, Nat.le_refl _, hr, hb⟩
set_option maxRecDepth 100000 in
set_option maxHeartbeats 1000000 in
theorem rd14_c (b k : Nat) (S : Sd) (w : World) (h : SAt w b (1 + k * 11) S) (hk : k < 4) : Calls Try.prog 14 #[.pointer (some ⟨b, 0, none⟩), .int .i64 k] w fun e w' => e = .returned (.int .u8 S.kd) ∧ w = w' := by
  have c := h.c5
  have k0 : (0 : Int) ≤ k := by omega
  have k1 : (k : Int) < 4 := by omega
  clear h
  go_enter Try.func14, Try.ntmps14
  go_wp2
  go_ret
  exact ⟨rfl, rfl⟩
set_option maxRecDepth 100000 in
set_option maxHeartbeats 1000000 in
theorem rd15_c (b k : Nat) (S : Sd) (w : World) (h : SAt w b (1 + k * 11) S) (hk : k < 4) : Calls Try.prog 15 #[.pointer (some ⟨b, 0, none⟩), .int .i64 k] w fun e w' => e = .returned (.int .u8 S.st) ∧ w = w' := by
  have c := h.c8
  have k0 : (0 : Int) ≤ k := by omega
  have k1 : (k : Int) < 4 := by omega
  clear h
  go_enter Try.func15, Try.ntmps15
  go_wp2
  go_ret
  exact ⟨rfl, rfl⟩
set_option maxRecDepth 100000 in
set_option maxHeartbeats 1000000 in
theorem rd16_c (b k : Nat) (S : Sd) (w : World) (h : SAt w b (1 + k * 11) S) (hk : k < 4) : Calls Try.prog 16 #[.pointer (some ⟨b, 0, none⟩), .int .i64 k] w fun e w' => e = .returned (.int .u32 S.ix) ∧ w = w' := by
  have c := h.c9
  have k0 : (0 : Int) ≤ k := by omega
  have k1 : (k : Int) < 4 := by omega
  clear h
  go_enter Try.func16, Try.ntmps16
  go_wp2
  go_ret
  exact ⟨rfl, rfl⟩
set_option maxRecDepth 100000 in
set_option maxHeartbeats 1000000 in
theorem rd17_c (b k : Nat) (S : Sd) (w : World) (h : SAt w b (1 + k * 11) S) (hk : k < 4) : Calls Try.prog 17 #[.pointer (some ⟨b, 0, none⟩), .int .i64 k] w fun e w' => e = .returned (.bool S.sg) ∧ w = w' := by
  have c := h.c10
  have k0 : (0 : Int) ≤ k := by omega
  have k1 : (k : Int) < 4 := by omega
  clear h
  go_enter Try.func17, Try.ntmps17
  go_wp2
  go_ret
  exact ⟨rfl, rfl⟩
set_option maxRecDepth 100000 in
set_option maxHeartbeats 1000000 in
theorem is12_c (b k : Nat) (S : Sd) (w : World) (h : SAt w b (1 + k * 11) S) (hk : k < 4) : Calls Try.prog 12 #[.pointer (some ⟨b, 0, none⟩), .int .i64 k, .int .u8 S.kd, .int .u8 S.st, .int .u32 S.ix, .bool S.sg] w fun e w' => e = .returned (.bool true) ∧ w = w' := by
  have C14 := Lib.hid (rd14_c b k S w h hk)
  have C15 := Lib.hid (rd15_c b k S w h hk)
  have C16 := Lib.hid (rd16_c b k S w h hk)
  have C17 := Lib.hid (rd17_c b k S w h hk)
  clear h
  go_enter Try.func12, Try.ntmps12
  go_wp2_with (first | (go_at_call 14; (with_reducible refine C14.out.mono ?_); rintro e w' ⟨rfl, rfl⟩) | (go_at_call 15; (with_reducible refine C15.out.mono ?_); rintro e w' ⟨rfl, rfl⟩) | (go_at_call 16; (with_reducible refine C16.out.mono ?_); rintro e w' ⟨rfl, rfl⟩) | (go_at_call 17; (with_reducible refine C17.out.mono ?_); rintro e w' ⟨rfl, rfl⟩))
  go_ret
  exact ⟨by simp, rfl⟩
set_option maxRecDepth 100000 in
set_option maxHeartbeats 1000000 in
theorem same11_c (b b' k : Nat) (S : Sd) (w : World) (h : SAt w b (1 + k * 11) S) (h' : SAt w b' (1 + k * 11) S) (hk : k < 4) : Calls Try.prog 11 #[.pointer (some ⟨b, 0, none⟩), .pointer (some ⟨b', 0, none⟩), .int .i64 k] w fun e w' => e = .returned (.bool true) ∧ w = w' := by
  have C14 := Lib.hid (rd14_c b' k S w h' hk)
  have C15 := Lib.hid (rd15_c b' k S w h' hk)
  have C16 := Lib.hid (rd16_c b' k S w h' hk)
  have C17 := Lib.hid (rd17_c b' k S w h' hk)
  have C12 := Lib.hid (is12_c b k S w h hk)
  clear h h'
  go_enter Try.func11, Try.ntmps11
  go_wp2_with (first | (go_at_call 14; (with_reducible refine C14.out.mono ?_); rintro e w' ⟨rfl, rfl⟩) | (go_at_call 15; (with_reducible refine C15.out.mono ?_); rintro e w' ⟨rfl, rfl⟩) | (go_at_call 16; (with_reducible refine C16.out.mono ?_); rintro e w' ⟨rfl, rfl⟩) | (go_at_call 17; (with_reducible refine C17.out.mono ?_); rintro e w' ⟨rfl, rfl⟩) | (go_at_call 12; (with_reducible refine C12.out.mono ?_); rintro e w' ⟨rfl, rfl⟩))
  go_ret
  exact ⟨rfl, rfl⟩
end Go.Proofs.Ytbakdeoeceajeaa
