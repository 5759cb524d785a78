/- FnSubstituteAmpersandsClosedForm: the maker of the stand-in, its two closures. -/
import Derived.Test.YtjigljpodkfchaaFmtSue
set_option linter.unusedVariables false
set_option linter.unusedSimpArgs false
namespace Go.Proofs.YtjigljpodkfchaaFmt
open Go.RowKit
set_option maxRecDepth 100000
set_option maxHeartbeats 4000000
theorem bp_gen {P : Program} {f : Func} {Q : Ending → World → Prop} {x : Exit} {a : Act} {w : World} (h : ∀ W, W = w → bodyPost P f Q x a W) : bodyPost P f Q x a w := h w rfl
/-- the one parent's own list -/
theorem fun30_c (xa : Option Addr) (xn xc : Nat) (w : World) (B g : Nat) (n c : Nat) (hB : w.cell? ⟨B, 0, none⟩ = some (.slice (some ⟨g, 0, none⟩) n c)) (h1 : n = 1) (hc : w.cell? ⟨g, 0, none⟩ = some (.slice xa xn xc)) : Calls Tryf.prog 30 #[.agg #[.int .i32 0], .pointer (some ⟨B, 0, none⟩)] w (RetV (.agg #[.slice xa xn xc]) w) := by
  subst h1
  go_enter Tryf.func30, Tryf.ntmps30
  go_upto_region 1 with fail
  refine wp_gen (fun W hW => ?_)
  have bW : Hid (Below w.heap.size w W) := Lib.hid (by rw [hW]; exact (ba _ _).alloc (by simp) _)
  have r0 : W.cell? ⟨w.heap.size + 1, 0, none⟩ = some (.slice none 0 0) := by rw [hW]; simp [go_sem]
  have rf : W.frozen? ⟨w.heap.size + 1, 0, none⟩ = false := by rw [hW]; simp [go_sem]
  clear hW
  have hB' := ac bW.out hB
  have hc' := ac bW.out hc
  clear hB hc
  go_wp2
  have K := (Kp.refl W).set (S := fun b => b = w.heap.size + 1) ⟨w.heap.size + 1, 0, none⟩ (.slice xa xn xc) (.inl rfl)
  have hF : RetV (.agg #[.slice xa xn xc]) w (.returned (.agg #[.slice xa xn xc])) (W.setCell ⟨w.heap.size + 1, 0, none⟩ (.slice xa xn xc)) := ⟨rfl, bW.out.trans (K.below (by have := bW.out.size; omega) (fun b e => by omega))⟩
  exact bodyPost_ret (v := .agg #[.slice xa xn xc]) (by simp [results, Tryf.results30, go_sem, r0]) rfl hF
theorem three' (w : World) (x y z : List Value) (t t' t'' : TypeId) (W : World) (hW : W = ((w.alloc (.cells x.toArray t)).alloc (.cells y.toArray t')).alloc (.cells z.toArray t'')) : Below w.heap.size w W ∧ Seg W w.heap.size 0 x ∧ Seg W (w.heap.size + 1) 0 y ∧ Seg W (w.heap.size + 1 + 1) 0 z ∧ W.heap.size = w.heap.size + 3 ∧ Room W w.heap.size x.length := by
  obtain ⟨h1, h2, -, h3, -, h4⟩ := three w x y z t t' t'' W hW
  subst hW
  refine ⟨h1, h2, ?_, h3, h4, ((Room.newN w x.toArray (n := x.length) (by simp) t).after (ba _ _)).after (ba _ _)⟩
  have := (Seg.new (w.alloc (.cells x.toArray t)) y t').after (ba _ (.cells z.toArray t''))
  simpa using this
/-- the stand-in made anew: one compound with ':is(clones)' -/
def IsP (LC : Int) (clones : Value) (w : World) (e : Ending) (w' : World) : Prop := ∃ g Y Z, e = .returned (.agg #[.slice (some ⟨g, 0, none⟩) 1 1]) ∧ Seg w' g 0 [.pointer none, .slice (some ⟨Y, 0, none⟩) 1 1, .slice none 0 0, .int .i32 0, .int .u8 LC, .bool false] ∧ Seg w' Y 0 [.iface 116 (.pointer (some ⟨Z, 0, none⟩)), .int .i32 0, .int .i32 0] ∧ Seg w' Z 0 [clones, .string ⟨#[]⟩, .string ⟨#[]⟩, .int .u8 2] ∧ Room w' Z 4 ∧ w.heap.size ≤ Z ∧ Z < Y ∧ Y < g ∧ Below w.heap.size w w'
theorem fun31_c (w : World) (B C : Nat) (cb : Int) (a : Option Addr) (n c : Nat) (hB : w.cell? ⟨B, 0, none⟩ = some (.int .i32 0)) (hB1 : w.cell? ⟨B, 1, none⟩ = some (.int .u8 cb)) (hC : w.cell? ⟨C, 0, none⟩ = some (.slice a n c)) : Calls Tryf.prog 31 #[.agg #[.int .i32 0], .pointer (some ⟨B, 0, none⟩), .pointer (some ⟨C, 0, none⟩)] w (IsP cb (.slice a n c) w) := by
  go_enter Tryf.func31, Tryf.ntmps31
  go_upto_region 1 with fail
  refine wp_gen (fun W hW => ?_)
  have bW : Hid (Below w.heap.size w W) := Lib.hid (by rw [hW]; exact (ba _ _).alloc (by simp) _)
  have p0 : W.cell? ⟨w.heap.size, 0, none⟩ = some (.int .i32 0) := by rw [hW]; simp [go_sem]
  have r0 : W.cell? ⟨w.heap.size + 1, 0, none⟩ = some (.slice none 0 0) := by rw [hW]; simp [go_sem]
  have rf : W.frozen? ⟨w.heap.size + 1, 0, none⟩ = false := by rw [hW]; simp [go_sem]
  have zW : W.heap.size = w.heap.size + 2 := by rw [hW]; simp
  clear hW
  have hB' := ac bW.out hB
  have hB1' := ac bW.out hB1
  have hC' := ac bW.out hC
  have x0 := fun o => al r0 o
  have x1 := fun o o' => al (al r0 o) o'
  have x2 := fun o o' o'' => al (al (al r0 o) o') o''
  clear hB hB1 hC
  go_wp2
  have K := (Kp.refl W).set (S := fun b => b = w.heap.size + 1) ⟨w.heap.size + 1, 0, none⟩ (.slice (some ⟨w.heap.size + 2 + 1 + 1, 0, none⟩) 1 1) (.inl rfl)
  have hz : (W.setCell ⟨w.heap.size + 1, 0, none⟩ (.slice (some ⟨w.heap.size + 2 + 1 + 1, 0, none⟩) 1 1)).heap.size = w.heap.size + 2 := by rw [← zW]; simp [World.setCell]
  refine bp_gen (fun W9 hW9 => ?_)
  obtain ⟨t1, t2, t3, t4, t5, t6⟩ := three' (W.setCell ⟨w.heap.size + 1, 0, none⟩ (.slice (some ⟨w.heap.size + 2 + 1 + 1, 0, none⟩) 1 1)) [.slice a n c, .string ⟨#[]⟩, .string ⟨#[]⟩, .int .u8 2] [.iface 116 (.pointer (some ⟨w.heap.size + 2, 0, none⟩)), .int .i32 0, .int .i32 0] [.pointer none, .slice (some ⟨w.heap.size + 2 + 1, 0, none⟩) 1 1, .slice none 0 0, .int .i32 0, .int .u8 cb, .bool false] 122 107 40 W9 hW9
  rw [hz] at t1 t2 t3 t4 t6
  have rc : W9.cell? ⟨w.heap.size + 1, 0, none⟩ = some (.slice (some ⟨w.heap.size + 2 + 1 + 1, 0, none⟩) 1 1) := by rw [t1.cell (by show w.heap.size + 1 < _; omega)]; exact cs r0
  have hF : IsP cb (.slice a n c) w (.returned (.agg #[.slice (some ⟨w.heap.size + 2 + 1 + 1, 0, none⟩) 1 1])) W9 := ⟨_, _, _, rfl, t4, t3, t2, t6, by omega, by omega, by omega, bW.out.trans ((K.below (by omega) (fun b e => by omega)).trans (t1.mono (by omega)))⟩
  clear hW9 t1 t2 t3 t4 t5 t6
  exact bodyPost_ret (v := .agg #[.slice (some ⟨w.heap.size + 2 + 1 + 1, 0, none⟩) 1 1]) (by simp [results, Tryf.results31, go_sem, rc]) rfl hF
theorem maker21_c (p : Value) (a : Option Addr) (c n : Nat) (w : World) (h1 : n = 1) : Calls Tryf.prog 21 #[p, .slice a n c] w (fun e w' => ∃ B, e = .returned (.func (.func 30) #[] #[.pointer (some ⟨B, 0, none⟩)]) ∧ w'.cell? ⟨B, 0, none⟩ = some (.slice a n c) ∧ w.heap.size ≤ B ∧ Below w.heap.size w w') := by
  subst h1
  go_enter Tryf.func21, Tryf.ntmps21
  go_wp2
  exact bodyPost_ret (v := .func (.func 30) #[] #[.pointer (some ⟨w.heap.size, 0, none⟩)]) (by simp [results, Tryf.results21, go_sem]) rfl ⟨_, rfl, by simp [go_sem], Nat.le_refl _, ba _ _⟩
end Go.Proofs.YtjigljpodkfchaaFmt
