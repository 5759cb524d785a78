/- Contracts of the builders of token lists and of parsers. -/
import Derived.Test.YtfklgdecaknbaaaFmtCur
import Derived.LoopTactic
set_option linter.unusedVariables false
set_option linter.unusedSimpArgs false
namespace Go.Proofs.YtfklgdecaknbaaaFmt
open Go.RowKit
theorem info43 : (Tryf.prog.info? 43).map (fun i => (i.zero.map (·.cells.size), i.size, i.bytes)) = some (some 5, 5, 12) := by kernel_rfl
theorem make43 (n : Nat) (hn : n ≤ 1048576) : ∃ z : Array Value, ∀ W : World, (Instr.makeSlice 35 (.int .i64 n) (.int .i64 n)).run Tryf.prog W = .ok (.slice (some ⟨W.heap.size, 0, none⟩) n n) (W.alloc (.cells (madeCells z (n * 5)) 43)) := by
  have h := info43
  cases hi : Tryf.prog.info? 43 with
  | none => rw [hi] at h; cases h
  | some i =>
    rw [hi] at h
    simp only [Option.map_some, Option.some.injEq, Prod.mk.injEq] at h
    obtain ⟨h1, h2, h3⟩ := h
    cases hz : i.zero with
    | none => rw [hz] at h1; cases h1
    | some z =>
      refine ⟨z.cells, fun W => ?_⟩
      have := run_make (P := Tryf.prog) W 35 43 i z Tryf.underlying35 hi hz .i64 .i64 n n (by omega) (by omega) (by rw [h3]; omega) (by omega)
      rw [h2] at this
      simpa using this
def Fill (w : World) (n : Nat) (K S L : Nat → Int) (k : Nat) (wr : World) : Prop := Below w.heap.size w wr ∧ w.heap.size < wr.heap.size ∧ TK wr w.heap.size k K S L ∧ Room wr w.heap.size (n * 5)
set_option maxRecDepth 100000 in
set_option maxHeartbeats 2000000 in
theorem new14_c (ct : ByteArray) (A1 A2 A3 : Option Addr) (n c1 c2 c3 : Nat) (idx : Int) (K S L : Nat → Int) (w : World) (hn : n ≤ 1048576) (hs : ct.size ≤ 1048576) (r1 : Row .u8 w A1 n K) (r2 : Row .i32 w A2 n S) (r3 : Row .i32 w A3 n L) :
    Calls Tryf.prog 8 #[.string ct, .slice A1 n c1, .slice A2 n c2, .slice A3 n c3, .int .i64 idx, .bool false, .int .u8 0, .bool false] w fun e w' => ∃ b T, e = .returned (.pointer (some ⟨b, 0, none⟩)) ∧ PS w' b T n idx ct K S L ∧ w.heap.size ≤ b ∧ w'.cell? ⟨b, 19, none⟩ = some (.slice none 0 0) ∧ w'.frozen? ⟨b, 19, none⟩ = false ∧ Below w.heap.size w w' := by
  obtain ⟨z, hmk⟩ := make43 n hn
  have R1 := Lib.hid r1; have R2 := Lib.hid r2; have R3 := Lib.hid r3
  clear r1 r2 r3
  go_enter Tryf.func8, Tryf.ntmps8
  go_wp2
  have H0 : Fill w n K S L 0 (w.alloc (.cells (madeCells z (n * 5)) 43)) := ⟨(Below.refl _ _).alloc (Nat.le_refl _) _, by simp, fun i hi => by omega, Room.made _ _ _ _⟩
  have M := Lib.hid hmk
  clear hmk
  go_loopw [19] (fun i wr => ∃ k : Nat, k ≤ n ∧ i = .int .i64 k ∧ Fill w n K S L k wr) (fun i _ => n - (intOf i).toNat)
  case atStart => exact ⟨0, by omega, rfl, H0⟩
  case round =>
    obtain ⟨k, hk, rfl, HF⟩ := hrel
    clear H0
    by_cases hlt : k < n
    · obtain ⟨hB, hsz, htk, hroom⟩ := HF
      obtain ⟨x1, rfl, q1⟩ := (R1.out.after hB) k hlt
      obtain ⟨x2, rfl, q2⟩ := (R2.out.after hB) k hlt
      obtain ⟨x3, rfl, q3⟩ := (R3.out.after hB) k hlt
      have g1 := fun d os => cell_regrown q1 d os
      have g2 := fun d os => cell_regrown q2 d os
      have g3 := fun d os => cell_regrown q3 d os
      have i0 : (0 : Int) ≤ (k : Int) := by omega
      have i1 : (k : Int) < (n : Int) := by omega
      go_wp2
      refine drawn_tail 18 (by kernel_rfl) (by kernel_rfl) (by kernel_rfl) (fun Q hQ => ?_)
      simp only [List.take_succ_cons, List.take_zero, List.drop_succ_cons, List.drop_zero]
      repeat (quiet_step (fail))
      refine wpQuiet_nil ?_
      clear g1 g2 g3 q1 q2 q3
      intro W2 hw
      have hW : Below wr.heap.size wr W2 := by
        obtain ⟨⟨d, os⟩, rfl⟩ := hw
        exact below_regrown wr d os
      clear hw
      replace htk := htk.after hW
      replace hroom := hroom.after hW
      replace hB := hB.trans (hW.mono hB.size)
      replace hsz := Nat.lt_of_lt_of_le hsz hW.size
      clear hW
      obtain ⟨v0, c0, f0⟩ := hroom (k * 5) (by omega)
      obtain ⟨v1, c1, f1⟩ := hroom (k * 5 + 1) (by omega)
      obtain ⟨v2, c2, f2⟩ := hroom (k * 5 + 2) (by omega)
      obtain ⟨v3, c3, f3⟩ := hroom (k * 5 + 3) (by omega)
      obtain ⟨v4, c4, f4⟩ := hroom (k * 5 + 4) (by omega)
      have HT := Lib.hid (htk.step hroom (by omega))
      have HR := Lib.hid (((((hroom.set (k * 5) (.int .i32 (S k))).set (k * 5 + 1) (.int .i32 (L k))).set (k * 5 + 2) (.int .u16 0)).set (k * 5 + 3) (.int .u8 (K k))).set (k * 5 + 4) (.int .u8 0))
      clear htk hroom
      go_wp2
      refine ⟨⟨k + 1, by omega, by go_num, ⟨?_, ?_, HT.out, HR.out⟩⟩, by simp [intOf]; omega⟩
      · repeat (first | exact hB | refine Below.setCell ?_ (by simp) _)
      · simpa [World.setCell] using hsz
    · obtain rfl : k = n := by omega
      go_wp2
      obtain ⟨hB, hsz, htk, hroom⟩ := HF
      go_ret
      exact ⟨wr.heap.size, w.heap.size, rfl, ⟨by simp [go_sem], by simp [go_sem], by simp [go_sem], by simp [go_sem], by omega, htk.after ((Below.refl _ _).alloc (Nat.le_refl _) _)⟩, hB.size, by simp [go_sem], by simp [go_sem], hB.alloc hB.size _⟩
end Go.Proofs.YtfklgdecaknbaaaFmt
