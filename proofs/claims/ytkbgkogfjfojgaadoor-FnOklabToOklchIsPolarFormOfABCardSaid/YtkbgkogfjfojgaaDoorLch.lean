/- lab_to_lch: its contract. -/
import Derived.Test.YtkbgkogfjfojgaaDoorHue
import Derived.Test.YtkbgkogfjfojgaaDoorCL
import Derived.Test.YtkbgkogfjfojgaaDoorIU
import Derived.Deep.Cut
set_option linter.unusedSimpArgs false
set_option linter.unusedVariables false
namespace Go.Proofs.YtkbgkogfjfojgaaDoor
open Go.RowKit Go.Sort
open Flt Ieee
theorem wp_gen {c : Code} {P : Program} {Q : Exit → Act → World → Prop} {a : Act} {w0 : World} (h : ∀ W, W = w0 → c.wp P Q a W) : c.wp P Q a w0 := h _ rfl
theorem after_call {W w' : World} (hb : Below W.heap.size W w') {a : Addr} {v : Value} (hc : W.cell? a = some v) : w'.cell? a = some v := by rw [hb.cell (block_lt_of_cell hc)]; exact hc
theorem after_frozen {W w' : World} (hb : Below W.heap.size W w') {a : Addr} {v : Value} (hc : W.cell? a = some v) (hf : W.frozen? a = false) : w'.frozen? a = false := by rw [hb.frozen (block_lt_of_cell hc)]; exact hf
theorem valB_c (f : Nat) (w : World) : Calls Tryd.prog 11 #[fl f] w fun e w' => e = .returned (.float .f64 f) ∧ Below w.heap.size w w' :=
  (val_c f w).mono fun e w' ⟨h1, h2⟩ => ⟨h1, by rw [← h2]; exact (Below.refl _ _).alloc (Nat.le_refl _) _⟩
theorem newB_c (f : Nat) (w : World) : Calls Tryd.prog 10 #[.float .f64 f] w fun e w' => e = .returned (fl f) ∧ Below w.heap.size w w' :=
  (new_c f w).mono fun e w' ⟨h1, h2⟩ => ⟨h1, by rw [← h2]; exact (Below.refl _ _).alloc (Nat.le_refl _) _⟩
set_option maxRecDepth 100000 in
set_option maxHeartbeats 2000000 in
theorem at17_c (y x q : Nat) (w : World) (h : C2 y x q) : Calls Tryd.prog 24 #[.float .f64 y, .float .f64 x] w fun e w' => e = .returned (.float .f64 q) ∧ w = w' := by
  have C := Lib.hid (show ∀ w, Calls Tryd.prog 29 #[.float .f64 y, .float .f64 x] w fun e w' => e = .returned (.float .f64 q) ∧ w = w' from h)
  clear h
  go_enter Tryd.func24, Tryd.ntmps24
  go_wp2_with (go_at_call 29; (with_reducible refine (C.out _).mono ?_); rintro e w' ⟨rfl, rfl⟩)
  go_ret
  exact ⟨rfl, rfl⟩
set_option maxRecDepth 100000 in
set_option maxHeartbeats 2000000 in
theorem at11_c (y x q : Nat) (w : World) (h : C2 y x q) : Calls Tryd.prog 15 #[fl y, fl x] w fun e w' => e = .returned (fl q) ∧ Below w.heap.size w w' := by
  have st := st_fl
  have C := Lib.hid (fun w => at17_c y x q w h)
  clear h
  go_enter Tryd.func15, Tryd.ntmps15
  go_wp2_with (first | (go_at_call 24; (with_reducible refine (C.out _).mono ?_); rintro e w' ⟨rfl, rfl⟩) | (go_at_call 10; refine (new_c _ _).mono ?_; rintro e w' ⟨rfl, rfl⟩))
  refine bodyPost_ret (v := fl q) (by simp [results, Tryd.results15, go_sem]) rfl ⟨rfl, ?_⟩
  repeat (first | exact Below.refl _ _ | refine Below.alloc ?_ (by first | omega | (simp <;> omega)) _)
theorem run22 (x r : Nat) (w : World) (h : F.sqrt x = some r) : (callFunc 30 #[.float .f64 x]).run Tryd.prog w = .ok (.value (.float .f64 r)) w := by
  rw [run_callFunc_extern (e := Extern.MathSqrt.sqrt) Tryd.func30 (by kernel_rfl) (by kernel_rfl) (by kernel_rfl) (by kernel_rfl)]
  have : FloatKind.f64.format.sqrt x = some r := h
  change (Sem.run Tryd.prog (match FloatKind.f64.format.sqrt x with | some r => (pure (.float .f64 r) : Sem Value) | none => (do pure (.float .f64 (← choose (.nanBits .f64 x x))))) w).andThen _ = _
  rw [this]; rfl
theorem msqrt_c (x r : Nat) (w : World) (h : F.sqrt x = some r) : Calls Tryd.prog 25 #[.float .f64 x] w fun e w' => e = .returned (.float .f64 r) ∧ w = w' := by
  have k := fun w => run22 x r w h
  clear h
  go_enter Tryd.func25, Tryd.ntmps25
  go_wp2
  go_ret
  exact ⟨rfl, rfl⟩
set_option maxRecDepth 100000 in
set_option maxHeartbeats 2000000 in
theorem sqrt_c (x r : Nat) (w : World) (h : F.sqrt x = some r) : Calls Tryd.prog 20 #[fl x] w fun e w' => e = .returned (fl r) ∧ Below w.heap.size w w' := by
  have st := st_fl
  have H := Lib.hid h
  clear h
  go_enter Tryd.func20, Tryd.ntmps20
  go_wp2_with (first | (go_at_call 25; refine (msqrt_c _ _ _ H.out).mono ?_; rintro e w' ⟨rfl, rfl⟩) | (go_at_call 10; refine (new_c _ _).mono ?_; rintro e w' ⟨rfl, rfl⟩))
  refine bodyPost_ret (v := fl r) (by simp [results, Tryd.results20, go_sem]) rfl ⟨rfl, ?_⟩
  repeat (first | exact Below.refl _ _ | refine Below.alloc ?_ (by first | omega | (simp <;> omega)) _)
set_option maxRecDepth 100000 in
set_option maxHeartbeats 2000000 in
theorem sq_c (x r : Nat) (w : World) (h : floatBits .mul .f64 x x = some r) : Calls Tryd.prog 18 #[fl x] w fun e w' => e = .returned (fl r) ∧ Below w.heap.size w w' := by
  have st := st_fl
  have H := Lib.hid h
  clear h
  go_enter Tryd.func18, Tryd.ntmps18
  go_wp2_with (go_at_call 22; (with_reducible refine (mul_c _ _ _ _ H.out).mono ?_); rintro e w' ⟨rfl, hb⟩; have c0 := after_call (a := ⟨w.heap.size + 1, 0, none⟩) (v := .float .f64 0) hb (by simp [go_sem]); have f0 := after_frozen (a := ⟨w.heap.size + 1, 0, none⟩) (v := .float .f64 0) hb (by simp [go_sem]) (by simp [go_sem]); replace hb := (show Below w.heap.size w _ by repeat (first | exact Below.refl _ _ | refine Below.alloc ?_ (by first | omega | (simp <;> omega)) _)).trans (hb.mono (by first | omega | (simp <;> omega))))
  refine bodyPost_ret (v := fl r) (by simp [results, Tryd.results18, go_sem, c0]) rfl ⟨rfl, ?_⟩
  repeat (first | exact hb | refine Below.setCell ?_ (by first | omega | (simp <;> omega)) _)
/-- what each operation makes true -/
def AA (l a a2 b b2 s c h p6 p7 p8 : Nat) (i : Nat) (v : Value) (W : World) : Prop :=
  match i with
  | 0 => v = fl l
  | 1 => v = fl a
  | 2 => v = fl a2
  | 3 => v = fl b
  | 4 => v = fl b2
  | 5 => v = fl s
  | 6 => v = fl c
  | 7 => v = fl h
  | 8 => W.cell? ⟨p6, 0, none⟩ = some (.float .f64 l)
  | 9 => W.cell? ⟨p7, 0, none⟩ = some (.float .f64 c)
  | 10 => W.cell? ⟨p8, 0, none⟩ = some (.float .f64 h)
  | _ => True
structure CC (w : World) (l a b h pl pa pb p6 p7 p8 q9 : Nat) (W : World) : Prop where
  cl : W.cell? ⟨pl, 0, none⟩ = some (.float .f64 l)
  ca : W.cell? ⟨pa, 0, none⟩ = some (.float .f64 a)
  cb : W.cell? ⟨pb, 0, none⟩ = some (.float .f64 b)
  ch : W.cell? ⟨q9, 0, none⟩ = some (.float .f64 h)
  e6 : ∃ v, W.cell? ⟨p6, 0, none⟩ = some v ∧ W.frozen? ⟨p6, 0, none⟩ = false
  e7 : ∃ v, W.cell? ⟨p7, 0, none⟩ = some v ∧ W.frozen? ⟨p7, 0, none⟩ = false
  e8 : ∃ v, W.cell? ⟨p8, 0, none⟩ = some v ∧ W.frozen? ⟨p8, 0, none⟩ = false
  below : Below w.heap.size w W
theorem cs1 {w : World} {p : Addr} {u v : Value} (h : w.cell? p = some u) : (w.setCell p v).cell? p = some v := by simp [go_sem, h]
theorem co1 {w : World} {p q : Addr} {v : Value} (h : p ≠ q) : (w.setCell p v).cell? q = w.cell? q := World.cell?_setCell_other w p q v h
theorem fz1 {w : World} {p q : Addr} {v : Value} : (w.setCell p v).frozen? q = w.frozen? q := by simp [go_sem]
theorem CC.after {w : World} {l a b h pl pa pb p6 p7 p8 q9 : Nat} {W W' : World} (H : CC w l a b h pl pa pb p6 p7 p8 q9 W) (hb : Below W.heap.size W W') : CC w l a b h pl pa pb p6 p7 p8 q9 W' := by
  obtain ⟨c1, c2, c3, c4, ⟨v6, x6, f6⟩, ⟨v7, x7, f7⟩, ⟨v8, x8, f8⟩, hB⟩ := H
  exact ⟨after_call hb c1, after_call hb c2, after_call hb c3, after_call hb c4, ⟨v6, after_call hb x6, after_frozen hb x6 f6⟩, ⟨v7, after_call hb x7, after_frozen hb x7 f7⟩, ⟨v8, after_call hb x8, after_frozen hb x8 f8⟩, hB.trans (hb.mono hB.size)⟩
theorem AA_after {l a a2 b b2 s c h p6 p7 p8 : Nat} {W W' : World} (hb : Below W.heap.size W W') {j : Nat} {x : Value} (H : AA l a a2 b b2 s c h p6 p7 p8 j x W) : AA l a a2 b b2 s c h p6 p7 p8 j x W' := by
  unfold AA at *
  split at H <;> first | exact H | exact after_call hb H
theorem keep_ex {W : World} {p q : Nat} {x : Value} (h : ∃ v, W.cell? ⟨q, 0, none⟩ = some v ∧ W.frozen? ⟨q, 0, none⟩ = false) : ∃ v, (W.setCell ⟨p, 0, none⟩ x).cell? ⟨q, 0, none⟩ = some v ∧ (W.setCell ⟨p, 0, none⟩ x).frozen? ⟨q, 0, none⟩ = false := by
  obtain ⟨v, h1, h2⟩ := h
  by_cases e : p = q
  · subst e; exact ⟨x, cs1 h1, by rw [fz1]; exact h2⟩
  · exact ⟨v, by rw [co1 (by simp [e])]; exact h1, by rw [fz1]; exact h2⟩
theorem CC.set {w : World} {l a b h pl pa pb p6 p7 p8 q9 : Nat} {W : World} (H : CC w l a b h pl pa pb p6 p7 p8 q9 W) (p : Nat) (v : Value) (h1 : p ≠ pl) (h2 : p ≠ pa) (h3 : p ≠ pb) (h4 : p ≠ q9) (h5 : w.heap.size ≤ p) : CC w l a b h pl pa pb p6 p7 p8 q9 (W.setCell ⟨p, 0, none⟩ v) := by
  obtain ⟨c1, c2, c3, c4, e6, e7, e8, hB⟩ := H
  exact ⟨by rw [co1 (by simp [h1])]; exact c1, by rw [co1 (by simp [h2])]; exact c2, by rw [co1 (by simp [h3])]; exact c3, by rw [co1 (by simp [h4])]; exact c4, keep_ex e6, keep_ex e7, keep_ex e8, hB.setCell h5 _⟩
theorem AA_set {l a a2 b b2 s c h p6 p7 p8 : Nat} {W : World} {p k : Nat} {v : Value} (h6 : k ≠ 8 → p ≠ p6) (h7 : k ≠ 9 → p ≠ p7) (h8 : k ≠ 10 → p ≠ p8) (j : Nat) (x : Value) (hj : j ≠ k) (H : AA l a a2 b b2 s c h p6 p7 p8 j x W) : AA l a a2 b b2 s c h p6 p7 p8 j x (W.setCell ⟨p, 0, none⟩ v) := by
  unfold AA at *
  split at H <;> first | exact H | (rw [co1 (fun e => by injection e with e; omega)]; exact H)
theorem qne {w : World} {q9 h : Nat} {v1 v2 v3 b a l W} (H : CL w [(q9, h), (w.heap.size + 1 + 1 + 1 + 1 + 1, v1), (w.heap.size + 1 + 1 + 1 + 1, v2), (w.heap.size + 1 + 1 + 1, v3), (w.heap.size + 1 + 1, b), (w.heap.size + 1, a), (w.heap.size, l)] W) :
    q9 ≠ w.heap.size + 1 + 1 + 1 + 1 + 1 ∧ q9 ≠ w.heap.size + 1 + 1 + 1 + 1 ∧ q9 ≠ w.heap.size + 1 + 1 + 1 ∧ q9 ≠ w.heap.size + 1 + 1 ∧ q9 ≠ w.heap.size + 1 ∧ q9 ≠ w.heap.size := by
  have h := H.2.1
  simp only [List.map_cons, List.map_nil, List.nodup_cons, List.mem_cons, not_or] at h
  exact ⟨h.1.1, h.1.2.1, h.1.2.2.1, h.1.2.2.2.1, h.1.2.2.2.2.1, h.1.2.2.2.2.2.1⟩
set_option maxRecDepth 100000 in
set_option maxHeartbeats 2000000 in
theorem lch_pos (l a b q t a2 b2 s c : Nat) (w : World) (F1 : C2 b a q) (F2 : floatBits .mul .f64 q 4633260481411531256 = some t) (F3 : floatBits .mul .f64 a a = some a2) (F4 : floatBits .mul .f64 b b = some b2) (F5 : floatBits .add .f64 a2 b2 = some s) (F6 : F.sqrt s = some c) (hl : ltB t 0 = false) : Calls Tryd.prog 13 #[fl l, fl a, fl b] w fun e w' => e = .returned (.tuple #[fl l, fl c, fl t]) ∧ Below w.heap.size w w' := by
  have st := st_fl
  have G1 := Lib.hid F1; have G2 := Lib.hid F2; have G3 := Lib.hid F3; have G4 := Lib.hid F4; have G5 := Lib.hid F5; have G6 := Lib.hid F6
  clear F1 F2 F3 F4 F5 F6
  have e1 : (FloatKind.f64.format.order t 0 == some .lt) = false := hl
  clear hl
  go_enter Tryd.func13, Tryd.ntmps13
  go_upto_region 1 with (fail)
  refine wp_gen fun W0 hW => ?_
  have H : CL w [(w.heap.size + 1 + 1 + 1 + 1 + 1, 0), (w.heap.size + 1 + 1 + 1 + 1, 0), (w.heap.size + 1 + 1 + 1, 0), (w.heap.size + 1 + 1, b), (w.heap.size + 1, a), (w.heap.size, l)] W0 := by rw [hW]; have := ((((((CL.start w).new l 30).new a 30).new b 30).new 0 30).new 0 30).new 0 30; simpa using this
  clear hW
  have g1 := fun d os => cell_regrown (H.at_ 3 rfl) d os
  have g2 := fun d os => cell_regrown (H.at_ 4 rfl) d os
  refine seq_tail 4 (fun Q hQ => ?_)
  simp only [List.take_succ_cons, List.take_zero, List.drop_succ_cons, List.drop_zero]
  repeat (quiet_step (first | exact Calls.regrown_of (at11_c _ _ _ _ G1.out) | exact Calls.regrown_of (mulK_c _ _ _ _ G2.out)))
  refine wpQuiet_nil ?_
  clear g1 g2
  intro W3 hw
  replace H := H.regrown hw
  clear hw W0
  go_upto_region 2 with (fail)
  refine wp_gen fun W4 hW => ?_
  replace H := H.new t 30
  rw [← hW] at H
  clear hW
  generalize W3.heap.size = q9 at *
  clear W3
  have g5 := fun d os => cell_regrown (H.at_ 0 rfl) d os
  refine seq_tail 2 (fun Q hQ => ?_)
  simp only [List.take_succ_cons, List.take_zero, List.drop_succ_cons, List.drop_zero]
  repeat (quiet_step (first | exact Calls.regrown_of (valB_c _ _)))
  refine wpQuiet_nil ?_
  clear g5
  intro W6 hw
  replace H := H.regrown hw
  clear hw W4
  go_upto_region 4 with (fail)
  obtain ⟨n1, n2, n3, n4, n5, n6⟩ := qne H
  refine QTail.wp_region_each (AA l a a2 b b2 s c t (w.heap.size + 1 + 1 + 1) (w.heap.size + 1 + 1 + 1 + 1) (w.heap.size + 1 + 1 + 1 + 1 + 1)) (CC w l a b t w.heap.size (w.heap.size + 1) (w.heap.size + 1 + 1) (w.heap.size + 1 + 1 + 1) (w.heap.size + 1 + 1 + 1 + 1) (w.heap.size + 1 + 1 + 1 + 1 + 1) q9) (by kernel_rfl) (by kernel_rfl) ?_ ?_ ?_
  · exact ⟨H.at_ 6 rfl, H.at_ 5 rfl, H.at_ 4 rfl, H.at_ 0 rfl, ⟨_, H.at_ 3 rfl, H.fz 3 rfl⟩, ⟨_, H.at_ 2 rfl, H.fz 2 rfl⟩, ⟨_, H.at_ 1 rfl, H.fz 1 rfl⟩, H.bel.drew⟩
  · refine ⟨?_, ?_⟩
    · intro vs W hC hd
      clear hd
      have HC := Lib.hid hC
      simp only [QTail.putA]
      obtain ⟨c1, c2, c3, c4, -, -, -, -⟩ := hC
      go_wp2
      exact ⟨rfl, HC.out⟩
    refine ⟨?_, ?_⟩
    · intro vs W hC hd
      clear hd
      have HC := Lib.hid hC
      simp only [QTail.putA]
      obtain ⟨c1, c2, c3, c4, -, -, -, -⟩ := hC
      go_wp2
      exact ⟨rfl, HC.out⟩
    refine ⟨?_, ?_⟩
    · intro vs W hC hd
      have d1 : vs 1 = fl a := hd { on := 1, ground := Ground.data } (by simp) rfl
      clear hd
      have HC := Lib.hid hC
      simp only [QTail.putA]
      clear hC
      go_wp2_with (refine (sq_c a a2 _ G3.out).mono ?_; rintro e u ⟨rfl, hb⟩)
      exact ⟨rfl, HC.out.after hb, fun j x _ => AA_after hb⟩
    refine ⟨?_, ?_⟩
    · intro vs W hC hd
      clear hd
      have HC := Lib.hid hC
      simp only [QTail.putA]
      obtain ⟨c1, c2, c3, c4, -, -, -, -⟩ := hC
      go_wp2
      exact ⟨rfl, HC.out⟩
    refine ⟨?_, ?_⟩
    · intro vs W hC hd
      have d3 : vs 3 = fl b := hd { on := 3, ground := Ground.data } (by simp) rfl
      clear hd
      have HC := Lib.hid hC
      simp only [QTail.putA]
      clear hC
      go_wp2_with (refine (sq_c b b2 _ G4.out).mono ?_; rintro e u ⟨rfl, hb⟩)
      exact ⟨rfl, HC.out.after hb, fun j x _ => AA_after hb⟩
    refine ⟨?_, ?_⟩
    · intro vs W hC hd
      have d2 : vs 2 = fl a2 := hd { on := 2, ground := Ground.data } (by simp) rfl
      have d4 : vs 4 = fl b2 := hd { on := 4, ground := Ground.data } (by simp) rfl
      clear hd
      have HC := Lib.hid hC
      simp only [QTail.putA]
      clear hC
      go_wp2_with (refine (add_c a2 b2 s _ G5.out).mono ?_; rintro e u ⟨rfl, hb⟩)
      exact ⟨rfl, HC.out.after hb, fun j x _ => AA_after hb⟩
    refine ⟨?_, ?_⟩
    · intro vs W hC hd
      have d5 : vs 5 = fl s := hd { on := 5, ground := Ground.data } (by simp) rfl
      clear hd
      have HC := Lib.hid hC
      simp only [QTail.putA]
      clear hC
      go_wp2_with (refine (sqrt_c s c _ G6.out).mono ?_; rintro e u ⟨rfl, hb⟩)
      exact ⟨rfl, HC.out.after hb, fun j x _ => AA_after hb⟩
    refine ⟨?_, ?_⟩
    · intro vs W hC hd
      clear hd
      have HC := Lib.hid hC
      simp only [QTail.putA]
      obtain ⟨c1, c2, c3, c4, -, -, -, -⟩ := hC
      go_wp2
      exact ⟨rfl, HC.out⟩
    refine ⟨?_, ?_⟩
    · intro vs W hC hd
      have d0 : vs 0 = fl l := hd { on := 0, ground := Ground.data } (by simp) rfl
      clear hd
      have HC := Lib.hid hC
      simp only [QTail.putA]
      obtain ⟨v, cp, fp⟩ := hC.e6
      clear hC
      go_wp2
      exact ⟨⟨undef, cs1 cp⟩, HC.out.set _ _ (by omega) (by omega) (by omega) (by omega) (by omega), fun j x => AA_set (by omega) (by omega) (by omega) j x⟩
    refine ⟨?_, ?_⟩
    · intro vs W hC hd
      have d6 : vs 6 = fl c := hd { on := 6, ground := Ground.data } (by simp) rfl
      clear hd
      have HC := Lib.hid hC
      simp only [QTail.putA]
      obtain ⟨v, cp, fp⟩ := hC.e7
      clear hC
      go_wp2
      exact ⟨⟨undef, cs1 cp⟩, HC.out.set _ _ (by omega) (by omega) (by omega) (by omega) (by omega), fun j x => AA_set (by omega) (by omega) (by omega) j x⟩
    refine ⟨?_, ?_⟩
    · intro vs W hC hd
      have d7 : vs 7 = fl t := hd { on := 7, ground := Ground.data } (by simp) rfl
      clear hd
      have HC := Lib.hid hC
      simp only [QTail.putA]
      obtain ⟨v, cp, fp⟩ := hC.e8
      clear hC
      go_wp2
      exact ⟨⟨undef, cs1 cp⟩, HC.out.set _ _ (by omega) (by omega) (by omega) (by omega) (by omega), fun j x => AA_set (by omega) (by omega) (by omega) j x⟩
    trivial
  · intro vs W hC hA
    have d0 : vs 0 = fl l := hA 0 (by simp)
    have z6 : W.cell? ⟨w.heap.size + 1 + 1 + 1, 0, none⟩ = some (.float .f64 l) := hA 8 (by simp)
    have z7 : W.cell? ⟨w.heap.size + 1 + 1 + 1 + 1, 0, none⟩ = some (.float .f64 c) := hA 9 (by simp)
    have z8 : W.cell? ⟨w.heap.size + 1 + 1 + 1 + 1 + 1, 0, none⟩ = some (.float .f64 t) := hA 10 (by simp)
    have hB := hC.below
    clear hA hC d0 H
    simp only [QTail.putA]
    go_wp2
    exact bodyPost_ret (v := .tuple #[fl l, fl c, fl t]) (by simp [results, Tryd.results13, go_sem, z6, z7, z8]) rfl ⟨rfl, hB⟩
set_option maxRecDepth 100000 in
set_option maxHeartbeats 2000000 in
theorem lch_neg (l a b q t a2 b2 s c h : Nat) (w : World) (F1 : C2 b a q) (F2 : floatBits .mul .f64 q 4633260481411531256 = some t) (F3 : floatBits .mul .f64 a a = some a2) (F4 : floatBits .mul .f64 b b = some b2) (F5 : floatBits .add .f64 a2 b2 = some s) (F6 : F.sqrt s = some c) (F7 : floatBits .add .f64 t 4645040803167600640 = some h) (hl : ltB t 0 = true) : Calls Tryd.prog 13 #[fl l, fl a, fl b] w fun e w' => e = .returned (.tuple #[fl l, fl c, fl h]) ∧ Below w.heap.size w w' := by
  have st := st_fl
  have G1 := Lib.hid F1; have G2 := Lib.hid F2; have G3 := Lib.hid F3; have G4 := Lib.hid F4; have G5 := Lib.hid F5; have G6 := Lib.hid F6; have G7 := Lib.hid F7
  clear F1 F2 F3 F4 F5 F6 F7
  have e1 : (FloatKind.f64.format.order t 0 == some .lt) = true := hl
  clear hl
  go_enter Tryd.func13, Tryd.ntmps13
  go_upto_region 1 with (fail)
  refine wp_gen fun W0 hW => ?_
  have H : CL w [(w.heap.size + 1 + 1 + 1 + 1 + 1, 0), (w.heap.size + 1 + 1 + 1 + 1, 0), (w.heap.size + 1 + 1 + 1, 0), (w.heap.size + 1 + 1, b), (w.heap.size + 1, a), (w.heap.size, l)] W0 := by rw [hW]; have := ((((((CL.start w).new l 30).new a 30).new b 30).new 0 30).new 0 30).new 0 30; simpa using this
  clear hW
  have g1 := fun d os => cell_regrown (H.at_ 3 rfl) d os
  have g2 := fun d os => cell_regrown (H.at_ 4 rfl) d os
  refine seq_tail 4 (fun Q hQ => ?_)
  simp only [List.take_succ_cons, List.take_zero, List.drop_succ_cons, List.drop_zero]
  repeat (quiet_step (first | exact Calls.regrown_of (at11_c _ _ _ _ G1.out) | exact Calls.regrown_of (mulK_c _ _ _ _ G2.out)))
  refine wpQuiet_nil ?_
  clear g1 g2
  intro W3 hw
  replace H := H.regrown hw
  clear hw W0
  go_upto_region 2 with (fail)
  refine wp_gen fun W4 hW => ?_
  replace H := H.new t 30
  rw [← hW] at H
  clear hW
  generalize W3.heap.size = q9 at *
  clear W3
  have g5 := fun d os => cell_regrown (H.at_ 0 rfl) d os
  refine seq_tail 2 (fun Q hQ => ?_)
  simp only [List.take_succ_cons, List.take_zero, List.drop_succ_cons, List.drop_zero]
  repeat (quiet_step (first | exact Calls.regrown_of (valB_c _ _)))
  refine wpQuiet_nil ?_
  clear g5
  intro W6 hw
  replace H := H.regrown hw
  clear hw W4
  go_upto_region 3 with (fail)
  have g7 := fun d os => cell_regrown (H.at_ 0 rfl) d os
  refine seq_tail 2 (fun Q hQ => ?_)
  simp only [List.take_succ_cons, List.take_zero, List.drop_succ_cons, List.drop_zero]
  repeat (quiet_step (first | exact Calls.regrown_of (addK_c _ _ _ _ G7.out)))
  refine wpQuiet_nil ?_
  clear g7
  intro W8 hw
  replace H := H.regrown hw
  clear hw W6
  have cz := H.at_ 0 rfl
  have fz := H.fz 0 rfl
  go_upto_region 4 with (fail)
  clear cz fz
  refine wp_gen fun W9 hW => ?_
  replace H : CL w [(q9, h), (w.heap.size + 1 + 1 + 1 + 1 + 1, 0), (w.heap.size + 1 + 1 + 1 + 1, 0), (w.heap.size + 1 + 1 + 1, 0), (w.heap.size + 1 + 1, b), (w.heap.size + 1, a), (w.heap.size, l)] W9 := by rw [hW]; exact H.set 0 h rfl
  clear hW W8
  obtain ⟨n1, n2, n3, n4, n5, n6⟩ := qne H
  refine QTail.wp_region_each (AA l a a2 b b2 s c h (w.heap.size + 1 + 1 + 1) (w.heap.size + 1 + 1 + 1 + 1) (w.heap.size + 1 + 1 + 1 + 1 + 1)) (CC w l a b h w.heap.size (w.heap.size + 1) (w.heap.size + 1 + 1) (w.heap.size + 1 + 1 + 1) (w.heap.size + 1 + 1 + 1 + 1) (w.heap.size + 1 + 1 + 1 + 1 + 1) q9) (by kernel_rfl) (by kernel_rfl) ?_ ?_ ?_
  · exact ⟨H.at_ 6 rfl, H.at_ 5 rfl, H.at_ 4 rfl, H.at_ 0 rfl, ⟨_, H.at_ 3 rfl, H.fz 3 rfl⟩, ⟨_, H.at_ 2 rfl, H.fz 2 rfl⟩, ⟨_, H.at_ 1 rfl, H.fz 1 rfl⟩, H.bel.drew⟩
  · refine ⟨?_, ?_⟩
    · intro vs W hC hd
      clear hd
      have HC := Lib.hid hC
      simp only [QTail.putA]
      obtain ⟨c1, c2, c3, c4, -, -, -, -⟩ := hC
      go_wp2
      exact ⟨rfl, HC.out⟩
    refine ⟨?_, ?_⟩
    · intro vs W hC hd
      clear hd
      have HC := Lib.hid hC
      simp only [QTail.putA]
      obtain ⟨c1, c2, c3, c4, -, -, -, -⟩ := hC
      go_wp2
      exact ⟨rfl, HC.out⟩
    refine ⟨?_, ?_⟩
    · intro vs W hC hd
      have d1 : vs 1 = fl a := hd { on := 1, ground := Ground.data } (by simp) rfl
      clear hd
      have HC := Lib.hid hC
      simp only [QTail.putA]
      clear hC
      go_wp2_with (refine (sq_c a a2 _ G3.out).mono ?_; rintro e u ⟨rfl, hb⟩)
      exact ⟨rfl, HC.out.after hb, fun j x _ => AA_after hb⟩
    refine ⟨?_, ?_⟩
    · intro vs W hC hd
      clear hd
      have HC := Lib.hid hC
      simp only [QTail.putA]
      obtain ⟨c1, c2, c3, c4, -, -, -, -⟩ := hC
      go_wp2
      exact ⟨rfl, HC.out⟩
    refine ⟨?_, ?_⟩
    · intro vs W hC hd
      have d3 : vs 3 = fl b := hd { on := 3, ground := Ground.data } (by simp) rfl
      clear hd
      have HC := Lib.hid hC
      simp only [QTail.putA]
      clear hC
      go_wp2_with (refine (sq_c b b2 _ G4.out).mono ?_; rintro e u ⟨rfl, hb⟩)
      exact ⟨rfl, HC.out.after hb, fun j x _ => AA_after hb⟩
    refine ⟨?_, ?_⟩
    · intro vs W hC hd
      have d2 : vs 2 = fl a2 := hd { on := 2, ground := Ground.data } (by simp) rfl
      have d4 : vs 4 = fl b2 := hd { on := 4, ground := Ground.data } (by simp) rfl
      clear hd
      have HC := Lib.hid hC
      simp only [QTail.putA]
      clear hC
      go_wp2_with (refine (add_c a2 b2 s _ G5.out).mono ?_; rintro e u ⟨rfl, hb⟩)
      exact ⟨rfl, HC.out.after hb, fun j x _ => AA_after hb⟩
    refine ⟨?_, ?_⟩
    · intro vs W hC hd
      have d5 : vs 5 = fl s := hd { on := 5, ground := Ground.data } (by simp) rfl
      clear hd
      have HC := Lib.hid hC
      simp only [QTail.putA]
      clear hC
      go_wp2_with (refine (sqrt_c s c _ G6.out).mono ?_; rintro e u ⟨rfl, hb⟩)
      exact ⟨rfl, HC.out.after hb, fun j x _ => AA_after hb⟩
    refine ⟨?_, ?_⟩
    · intro vs W hC hd
      clear hd
      have HC := Lib.hid hC
      simp only [QTail.putA]
      obtain ⟨c1, c2, c3, c4, -, -, -, -⟩ := hC
      go_wp2
      exact ⟨rfl, HC.out⟩
    refine ⟨?_, ?_⟩
    · intro vs W hC hd
      have d0 : vs 0 = fl l := hd { on := 0, ground := Ground.data } (by simp) rfl
      clear hd
      have HC := Lib.hid hC
      simp only [QTail.putA]
      obtain ⟨v, cp, fp⟩ := hC.e6
      clear hC
      go_wp2
      exact ⟨⟨undef, cs1 cp⟩, HC.out.set _ _ (by omega) (by omega) (by omega) (by omega) (by omega), fun j x => AA_set (by omega) (by omega) (by omega) j x⟩
    refine ⟨?_, ?_⟩
    · intro vs W hC hd
      have d6 : vs 6 = fl c := hd { on := 6, ground := Ground.data } (by simp) rfl
      clear hd
      have HC := Lib.hid hC
      simp only [QTail.putA]
      obtain ⟨v, cp, fp⟩ := hC.e7
      clear hC
      go_wp2
      exact ⟨⟨undef, cs1 cp⟩, HC.out.set _ _ (by omega) (by omega) (by omega) (by omega) (by omega), fun j x => AA_set (by omega) (by omega) (by omega) j x⟩
    refine ⟨?_, ?_⟩
    · intro vs W hC hd
      have d7 : vs 7 = fl h := hd { on := 7, ground := Ground.data } (by simp) rfl
      clear hd
      have HC := Lib.hid hC
      simp only [QTail.putA]
      obtain ⟨v, cp, fp⟩ := hC.e8
      clear hC
      go_wp2
      exact ⟨⟨undef, cs1 cp⟩, HC.out.set _ _ (by omega) (by omega) (by omega) (by omega) (by omega), fun j x => AA_set (by omega) (by omega) (by omega) j x⟩
    trivial
  · intro vs W hC hA
    have d0 : vs 0 = fl l := hA 0 (by simp)
    have z6 : W.cell? ⟨w.heap.size + 1 + 1 + 1, 0, none⟩ = some (.float .f64 l) := hA 8 (by simp)
    have z7 : W.cell? ⟨w.heap.size + 1 + 1 + 1 + 1, 0, none⟩ = some (.float .f64 c) := hA 9 (by simp)
    have z8 : W.cell? ⟨w.heap.size + 1 + 1 + 1 + 1 + 1, 0, none⟩ = some (.float .f64 h) := hA 10 (by simp)
    have hB := hC.below
    clear hA hC d0 H
    simp only [QTail.putA]
    go_wp2
    exact bodyPost_ret (v := .tuple #[fl l, fl c, fl h]) (by simp [results, Tryd.results13, go_sem, z6, z7, z8]) rfl ⟨rfl, hB⟩
end Go.Proofs.YtkbgkogfjfojgaaDoor
