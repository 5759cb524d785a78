/- FnMangleTransformsIdempotentOnNumbers: zzUpper. -/
import Derived.Test.YtoblbakaemglbaaFmtMt2
import Derived.Laws.BytesArg
import Derived.Laws.IdiomStrings
set_option linter.unusedVariables false
set_option linter.unusedSimpArgs false
namespace Go.Proofs.YtoblbakaemglbaaFmt
open Go.RowKit
def bN (s : ByteArray) (j : Nat) : Int := (s.data.toList.getD j 0).toNat
theorem bN_at (s : ByteArray) (j : Nat) (h : j < s.size) : ((s[j]'h).toNat : Int) = bN s j := by
  have h' : j < s.data.toList.length := by rw [Array.length_toList]; exact h
  unfold bN
  rw [List.getD_eq_getElem?_getD, List.getElem?_eq_getElem h']
  rfl
theorem bN_rng {s : ByteArray} (j : Nat) : 0 ≤ bN s j ∧ bN s j ≤ 255 := by
  unfold bN
  have := UInt8.toNat_lt (s.data.toList.getD j 0)
  omega
def upN (c : Int) : Int := if 97 ≤ c ∧ c ≤ 122 then c - 32 else c
/-- the text in ASCII upper case -/
def upA (s : ByteArray) : ByteArray := strOfNums (s.data.toList.map fun c => upN c.toNat)
/-- a row of bytes, its first k letters folded -/
structure Up1 (s : ByteArray) (B k : Nat) (W : World) : Prop where
  c : ∀ j, j < s.size → W.cell? ⟨B, j, none⟩ = some (.int .u8 (if j < k then upN (bN s j) else bN s j))
  f : ∀ j, j < s.size → W.frozen? ⟨B, j, none⟩ = false
theorem Up1.step {s : ByteArray} {B k : Nat} {W : World} (h : Up1 s B k W) (hk : k < s.size) (e : upN (bN s k) = bN s k) : Up1 s B (k + 1) W :=
  ⟨fun j hj => by
    have := h.c j hj
    by_cases c : j = k
    · subst c; rw [if_neg (by omega)] at this; rw [if_pos (by omega), this, e]
    · by_cases c2 : j < k
      · rw [if_pos c2] at this; rw [if_pos (by omega)]; exact this
      · rw [if_neg c2] at this; rw [if_neg (by omega)]; exact this, h.f⟩
theorem Up1.set {s : ByteArray} {B k : Nat} {W : World} (h : Up1 s B k W) (hk : k < s.size) (v : Int) (e : upN (bN s k) = v) : Up1 s B (k + 1) (W.setCell ⟨B, k, none⟩ (.int .u8 v)) :=
  ⟨fun j hj => by
    have := h.c j hj
    by_cases c : j = k
    · subst c; rw [if_pos (by omega), e]; simp [go_sem, this]
    · rw [World.cell?_setCell_other _ _ _ _ (fun q => c (by injection q with q1 q2; exact q2.symm))]
      by_cases c2 : j < k
      · rw [if_pos c2] at this; rw [if_pos (by omega)]; exact this
      · rw [if_neg c2] at this; rw [if_neg (by omega)]; exact this, fun j hj => by simpa [go_sem] using h.f j hj⟩
set_option maxRecDepth 100000 in
set_option maxHeartbeats 4000000 in
theorem upper_c (s : ByteArray) (w : World) (h : s.size ≤ 1048576) : Calls Tryf.prog 6 #[.string s] w fun e w' => e = .returned (.string (upA s)) ∧ Below w.heap.size w w' := by
  have kc := run_bytes_of_string (P := Tryf.prog) w 9 22 5 s Tryf.underlying9 Tryf.underlying22 Tryf.underlying5
  go_enter Tryf.func6, Tryf.ntmps6
  go_upto_region 3 with (fail)
  refine wp_gen fun W hW => ?_
  have L0 : Up1 s w.heap.size 0 W := by
    have hcell : ∀ j, j < s.size → (bytesRow s (grownCap w s.size 0 5))[j]? = some (.int .u8 (bN s j)) := fun j hj => by
      have h' : j < s.data.size := hj
      unfold bytesRow
      rw [Array.getElem?_append_left (by simpa using h'), Array.getElem?_map, Array.getElem?_eq_getElem h']
      show some (Value.int .u8 ((s[j]'hj).toNat : Int)) = _
      rw [bN_at s j hj]
    have hsz : s.size ≤ (bytesRow s (grownCap w s.size 0 5)).size := by unfold bytesRow; simp
    constructor
    · intro j hj
      rw [if_neg (by omega), hW]
      have := hcell j hj
      rw [World.cell?_drew, World.cell?_alloc_mark]; exact this
    · intro j hj
      rw [hW]
      have h1 : ¬ (bytesRow s (grownCap w s.size 0 5)).size ≤ j := by omega
      rw [World.frozen?_drew, World.frozen?_alloc_mark, decide_eq_false h1]; rfl
  have hB0 : Below w.heap.size w W := by rw [hW]; exact ((Below.refl _ _).alloc (Nat.le_refl _) _).drew
  clear hW kc
  generalize grownCap w s.size 0 5 = cp
  generalize hBb : w.heap.size = B at *
  have HBb := Lib.hid hBb
  clear hBb
  have LL := Lib.hid L0
  clear L0
  go_loopw [4] (fun i wr => ∃ k : Nat, k ≤ s.size ∧ i = .int .i64 k ∧ Hid (Up1 s B k wr) ∧ Below B w wr) (fun i _ => s.size - (intOf i).toNat)
  case atStart => exact ⟨0, by omega, rfl, LL, hB0⟩
  case round =>
    obtain ⟨k, hk, rfl, H, hb⟩ := hrel
    clear LL hB0
    by_cases hlt : k < s.size
    · have c1 := H.out.c k hlt
      rw [if_neg (by omega)] at c1
      have f1 := H.out.f k hlt
      obtain ⟨g1, g2⟩ := bN_rng (s := s) k
      by_cases q1 : bN s k < 97
      · have E := Lib.hid (H.out.step hlt (by unfold upN; rw [if_neg (by omega)]))
        generalize bN s k = c at *
        go_wp2
        go_roundw
        case rel => exact ⟨k + 1, by omega, by go_num, E, hb⟩
        case measure => simp [intOf]; omega
      · by_cases q2 : bN s k ≤ 122
        · have E := Lib.hid (fun v e => H.out.set hlt v e)
          have e2 := Lib.hid (show upN (bN s k) = bN s k - 32 by unfold upN; rw [if_pos (by omega)])
          generalize bN s k = c at *
          go_wp2
          go_roundw
          case rel => exact ⟨k + 1, by omega, by go_num, Lib.hid (E.out _ e2.out), hb.setCell (Nat.le_refl _) _⟩
          case measure => simp [intOf]; omega
        · have E := Lib.hid (H.out.step hlt (by unfold upN; rw [if_neg (by omega)]))
          generalize bN s k = c at *
          go_wp2
          go_roundw
          case rel => exact ⟨k + 1, by omega, by go_num, E, hb⟩
          case measure => simp [intOf]; omega
    · have kc := run_convert_bytes_arg (P := Tryf.prog) wr 22 5 Tryf.underlying22 Tryf.underlying5 B 0 s.size cp (s.data.toList.map fun c => upN c.toNat) (by rw [List.length_map, Array.length_toList]; rfl) (fun i hi => by
        have := H.out.c i hi
        rw [if_pos (by omega)] at this
        rw [Nat.zero_add, this]
        have h' : i < s.data.toList.length := by rw [Array.length_toList]; exact hi
        rw [List.getD_eq_getElem?_getD, List.getElem?_map, List.getElem?_eq_getElem h']
        unfold bN
        rw [List.getD_eq_getElem?_getD, List.getElem?_eq_getElem h']
        rfl) 9 Tryf.underlying9
      clear H
      go_wp2
      go_ret
      exact ⟨rfl, by rw [HBb.out]; exact hb⟩
end Go.Proofs.YtoblbakaemglbaaFmt
