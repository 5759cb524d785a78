/- F64.Floor and F64.Neg: what each returns; of the memory that was there nothing turns. -/
import Derived.Test.YtanaamlkiackbaaMnx
import Derived.Test.YtanaamlkiackbaaRel
set_option linter.unusedSimpArgs false
set_option linter.unusedVariables false
namespace Go.Proofs.Ytanaamlkiackbaa
open Go.RowKit Go.Sort
open Flt Ieee
theorem wp_gen {c : Code} {P : Program} {Q : Exit → Act → World → Prop} {a : Act} {w0 : World} (h : ∀ W, W = w0 → c.wp P Q a W) : c.wp P Q a w0 := h _ rfl
theorem neg_fl (x : Nat) (w : World) : (Op.unary .neg (.float .f64 x)).run Try.prog w = .ok (.float .f64 (negB x)) w := rfl
theorem after_call {W w' : World} (hb : Below W.heap.size W w') {a : Addr} {v : Value} (hc : W.cell? a = some v) : w'.cell? a = some v :=
  by rw [hb.cell (block_lt_of_cell hc)]; exact hc
theorem after_frozen {W w' : World} (hb : Below W.heap.size W w') {a : Addr} {v : Value} (hc : W.cell? a = some v) (hf : W.frozen? a = false) : w'.frozen? a = false :=
  by rw [hb.frozen (block_lt_of_cell hc)]; exact hf
/-- what math.Floor gives -/
def FR (x r : Nat) : Prop := (fin x → r = floorB x) ∧ (¬ fin x → isNan x ∨ F.read r = F.read x)
theorem run51 (x : Nat) (w : World) : ∃ r w', (callFunc 51 #[.float .f64 x]).run Try.prog w = .ok (.value (.float .f64 r)) w' ∧ FR x r ∧ Below w.heap.size w w' := by
  rw [run_callFunc_extern (e := Extern.MathFloor.toIntegral "math.archFloor" .down) Try.func51 (by kernel_rfl) (by kernel_rfl) (by kernel_rfl) (by kernel_rfl)]
  change ∃ r w', (Sem.run Try.prog (match F.read x with
    | .nan s t => if F.quiet t = t then (pure (.float .f64 x) : Sem Value) else (do
      let kept ← choose (.extern "math.Floor,Ceil,Trunc,RoundToEven.signallingNaN kept" 2)
      pure (.float .f64 (if kept == 1 then x else F.write (.nan s (F.quiet t)))))
    | d => pure (.float .f64 (F.write (d.integral .down)))) w).andThen _ = _ ∧ _
  cases e : F.read x with
  | number s m p =>
    refine ⟨_, w, rfl, ⟨fun _ => ?_, fun h => ?_⟩, Below.refl _ _⟩
    · unfold floorB; rw [e]
    · exact (h (by unfold fin; rw [e]; trivial)).elim
  | infinity s =>
    refine ⟨_, w, rfl, ⟨fun h => ?_, fun h => ?_⟩, Below.refl _ _⟩
    · unfold fin at h; rw [e] at h; exact h.elim
    · right; rw [e]; cases s <;> decide +kernel
  | nan s t =>
    have hn : isNan x := ⟨s, t, e⟩
    have hf : ∀ r, FR x r := fun r => ⟨fun h => by unfold fin at h; rw [e] at h; exact h.elim, fun _ => Or.inl hn⟩
    dsimp only
    split
    · exact ⟨_, w, rfl, hf _, Below.refl _ _⟩
    · have hq : (Question.extern "math.Floor,Ceil,Trunc,RoundToEven.signallingNaN kept" 2).forced = false := by simp [Question.forced]
      generalize Question.extern "math.Floor,Ceil,Trunc,RoundToEven.signallingNaN kept" 2 = q at hq
      refine ⟨if q.cut (w.tape w.drawn q) == 1 then x else F.write (.nan s (F.quiet t)), w.drew, ?_, hf _, (Below.refl _ _).drew⟩
      simp [go_sem]
      have e2 : ∀ (A B : Result Nat), (if q.forced = true then A else B) = B := fun A B => by rw [hq]; rfl
      exact congrArg (fun z => (Result.andThen (Result.andThen z _) _)) (e2 (.ok 0 w) _)
set_option maxRecDepth 100000 in
theorem mfloor_r (x : Nat) (w : World) : Calls Try.prog 43 #[.float .f64 x] w (RPf (FR x) w) := by
  obtain ⟨r, w1, k, hR, hb⟩ := run51 x w
  have H := Lib.hid (And.intro hR hb)
  clear hR hb
  go_enter Try.func43, Try.ntmps43
  go_wp2
  go_ret
  exact ⟨r, H.out.1, rfl, H.out.2⟩
set_option maxRecDepth 100000 in
theorem floor_r (x : Nat) (w : World) : Calls Try.prog 27 #[fl x] w (RP (FR x) w) := by
  have st := st_fl
  go_enter Try.func27, Try.ntmps27
  go_wp2_with fail
  refine (mfloor_r _ _).mono ?_
  rintro e u ⟨r, hR, rfl, hbu⟩
  have H := Lib.hid hR
  clear hR
  have c0 : u.cell? ⟨w.heap.size + 1, 0, none⟩ = some (.float .f64 0) := after_call hbu (by simp [go_sem])
  have f0 : u.frozen? ⟨w.heap.size + 1, 0, none⟩ = false := after_frozen (v := .float .f64 0) hbu (by simp [go_sem]) (by simp [go_sem])
  have b0 : Below w.heap.size w u := (show Below w.heap.size w _ by repeat (first | exact Below.refl _ _ | refine Below.alloc ?_ (by first | omega | (simp <;> omega)) _)).trans (hbu.mono (by first | omega | (simp <;> omega)))
  clear hbu
  have c1 : (u.alloc (.cells #[.float .f64 r] 38)).cell? ⟨w.heap.size + 1, 0, none⟩ = some (.float .f64 0) := after_call ((Below.refl _ _).alloc (Nat.le_refl _) _) c0
  have f1 : (u.alloc (.cells #[.float .f64 r] 38)).frozen? ⟨w.heap.size + 1, 0, none⟩ = false := after_frozen (v := .float .f64 0) ((Below.refl _ _).alloc (Nat.le_refl _) _) c0 f0
  have b1 : Below w.heap.size w (u.alloc (.cells #[.float .f64 r] 38)) := b0.alloc b0.size _
  go_wp2_with (go_at_call 20; refine (new_c _ _).mono ?_; rintro e w' ⟨rfl, rfl⟩)
  refine bodyPost_ret (v := fl r) (by simp [results, Try.results27, go_sem, c1]) rfl ⟨_, H.out, rfl, ?_⟩
  repeat (first | exact b1 | refine Below.setCell ?_ (by first | omega | (simp <;> omega)) _)
set_option maxRecDepth 100000 in
theorem neg_c (x : Nat) (w : World) : Calls Try.prog 30 #[fl x] w fun e w' => e = .returned (fl (negB x)) ∧ Below w.heap.size w w' := by
  have st := st_fl
  have k := neg_fl
  go_enter Try.func30, Try.ntmps30
  go_wp2_with (go_at_call 20; refine (new_c _ _).mono ?_; rintro e w' ⟨rfl, rfl⟩)
  refine bodyPost_ret (v := fl (negB x)) (by simp [results, Try.results30, go_sem]) rfl ⟨rfl, ?_⟩
  repeat (first | exact Below.refl _ _ | refine Below.alloc ?_ (by simp <;> omega) _)

theorem floorF_c (x : Nat) (w : World) (hx : fin x) : Calls Try.prog 27 #[fl x] w fun e w' => e = .returned (fl (floorB x)) ∧ Below w.heap.size w w' :=
  (floor_r x w).mono fun e w' ⟨r, h, he, hb⟩ => ⟨by rw [he, h.1 hx], hb⟩
end Go.Proofs.Ytanaamlkiackbaa
