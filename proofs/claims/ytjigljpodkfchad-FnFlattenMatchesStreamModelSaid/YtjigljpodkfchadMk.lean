/- Words on what 'make' makes, with its zeros; and on css tokens that are zero. -/
import Derived.Test.YtjigljpodkfchadWd
set_option linter.unusedVariables false
set_option linter.unusedSimpArgs false
namespace Go.Proofs.Ytjigljpodkfchad
open Go.RowKit
theorem make_z {P : Program} {t e : TypeId} {z b : Nat} (zs : Array Value) (hu : P.underlying t = some (.slice e)) (hinfo : (P.info? e).map (fun i => (i.zero.map (·.cells), i.size, i.bytes)) = some (some zs, z, b)) (n : Nat) (hn : n ≤ 1048576) (hb : b ≤ 100000000) (W : World) :
    (Instr.makeSlice t (.int .i64 n) (.int .i64 n)).run P W = .ok (.slice (some ⟨W.heap.size, 0, none⟩) n n) (W.alloc (.cells (madeCells zs (n * z)) e)) := by
  cases hi : P.info? e with
  | none => rw [hi] at hinfo; cases hinfo
  | some i =>
    rw [hi] at hinfo
    simp only [Option.map_some, Option.some.injEq, Prod.mk.injEq] at hinfo
    obtain ⟨h1, h2, h3⟩ := hinfo
    cases hz : i.zero with
    | none => rw [hz] at h1; cases h1
    | some v =>
      rw [hz] at h1
      simp only [Option.map_some, Option.some.injEq] at h1
      have hm : b * n ≤ 100000000 * 1048576 := Nat.mul_le_mul hb hn
      have := run_make (P := P) W t e i v hu hi hz .i64 .i64 n n (by omega) (by omega) (by rw [h3]; omega) (by omega)
      rw [h2, h1] at this
      simpa using this
theorem made_at (w : World) (zs : Array Value) (N : Nat) (t : TypeId) (m : Nat) (hm : m < N) : (w.alloc (.cells (madeCells zs N) t)).cell? ⟨w.heap.size, m, none⟩ = some (zs[m % zs.size]!) := by
  simp [go_sem, madeCells, hm]
abbrev tkZ : Array Value := #[.pointer none, .string ⟨#[]⟩, .int .i32 0, .int .u32 0, .int .u16 0, .int .u8 0, .int .u8 0]
abbrev tk0 : Tk := ⟨.pointer none, ⟨#[]⟩, 0, 0, 0, 0, 0⟩
theorem TAt.zero (w : World) (n : Nat) (t : TypeId) (i : Nat) (hi : i < n) : TAt (w.alloc (.cells (madeCells tkZ (n * 7)) t)) w.heap.size (i * 7) tk0 := by
  have h : ∀ j, j < 7 → (w.alloc (.cells (madeCells tkZ (n * 7)) t)).cell? ⟨w.heap.size, i * 7 + j, none⟩ = some (tkZ[j]!) := fun j hj => by
    rw [made_at w tkZ (n * 7) t (i * 7 + j) (by omega)]
    have : (i * 7 + j) % tkZ.size = j := by show (i * 7 + j) % 7 = j; omega
    rw [this]
  exact ⟨h 0 (by omega), h 1 (by omega), h 2 (by omega), h 3 (by omega), h 4 (by omega), h 5 (by omega), h 6 (by omega)⟩
/-- make([]T, 0, n) -/
theorem make0_z {P : Program} {t e : TypeId} {z b : Nat} (zs : Array Value) (hu : P.underlying t = some (.slice e)) (hinfo : (P.info? e).map (fun i => (i.zero.map (·.cells), i.size, i.bytes)) = some (some zs, z, b)) (n : Nat) (hn : n ≤ 1048576) (hb : b ≤ 100000000) (W : World) :
    (Instr.makeSlice t (.int .i64 0) (.int .i64 n)).run P W = .ok (.slice (some ⟨W.heap.size, 0, none⟩) 0 n) (W.alloc (.cells (madeCells zs (n * z)) e)) := by
  cases hi : P.info? e with
  | none => rw [hi] at hinfo; cases hinfo
  | some i =>
    rw [hi] at hinfo
    simp only [Option.map_some, Option.some.injEq, Prod.mk.injEq] at hinfo
    obtain ⟨h1, h2, h3⟩ := hinfo
    cases hz : i.zero with
    | none => rw [hz] at h1; cases h1
    | some v =>
      rw [hz] at h1
      simp only [Option.map_some, Option.some.injEq] at h1
      have hm : b * n ≤ 100000000 * 1048576 := Nat.mul_le_mul hb hn
      have := run_make (P := P) W t e i v hu hi hz .i64 .i64 0 n (by omega) (by omega) (by rw [h3]; omega) (by omega)
      rw [h2, h1] at this
      simpa using this
end Go.Proofs.Ytjigljpodkfchad
