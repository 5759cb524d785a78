/- FnHueToRgbStaysBetweenEnds returns true at every pair of int64 ends and every float64 hue (no condition). -/
import Derived.Test.YtanaamlkiackbaaQT
import Derived.Test.YtanaamlkiackbaaRel
import Derived.Deep.RegionHeld3
import Derived.Outline
import Derived.ShutString
namespace Go.Proofs.Ytanaamlkiackbaa.fnHueToRgbStaysBetweenEnds
open Go.ChangeShapes Go.WideShapes Go.ChangeAt Go.RowKit Go.Sort
open Go.ChangeMaps (open_string shut_string)
open Flt Ieee
set_option linter.unusedVariables false
set_option linter.unusedSimpArgs false
theorem neg_fl (x : Nat) (w : World) : (Op.unary .neg (.float .f64 x)).run Try.prog w = .ok (.float .f64 (negB x)) w := rfl
theorem after_call {W w' : World} (hb : Below W.heap.size W w') {a : Addr} {v : Value} (hc : W.cell? a = some v) : w'.cell? a = some v :=
  by rw [hb.cell (block_lt_of_cell hc)]; exact hc
theorem after_frozen {W w' : World} (hb : Below W.heap.size W w') {a : Addr} {v : Value} (hc : W.cell? a = some v) (hf : W.frozen? a = false) : w'.frozen? a = false :=
  by rw [hb.frozen (block_lt_of_cell hc)]; exact hf
/-- what math.Floor gives -/
def FR (x r : Nat) : Prop := (fin x → r = floorB x) ∧ (¬ fin x → isNan x ∨ F.read r = F.read x)
theorem run51 (x : Nat) (w : World) : ∃ r w', (callFunc 51 #[.float .f64 x]).run Try.prog w = .ok (.value (.float .f64 r)) w' ∧ FR x r ∧ Below w.heap.size w w' := by
  rw [run_callFunc_extern (e := Extern.MathFloor.toIntegral "math.archFloor" .down) Try.func51 (by kernel_rfl) (by kernel_rfl) (by kernel_rfl) (by kernel_rfl)]
  change ∃ r w', (Sem.run Try.prog (match F.read x with
    | .nan s t => if F.quiet t = t then (pure (.float .f64 x) : Sem Value) else (do
      let kept ← choose (.extern "math.Floor,Ceil,Trunc,RoundToEven.signallingNaN kept" 2)
      pure (.float .f64 (if kept == 1 then x else F.write (.nan s (F.quiet t)))))
    | d => pure (.float .f64 (F.write (d.integral .down)))) w).andThen _ = _ ∧ _
  cases e : F.read x with
  | number s m p =>
    refine ⟨_, w, rfl, ⟨fun _ => ?_, fun h => ?_⟩, Below.refl _ _⟩
    · unfold floorB; rw [e]
    · exact (h (by unfold fin; rw [e]; trivial)).elim
  | infinity s =>
    refine ⟨_, w, rfl, ⟨fun h => ?_, fun h => ?_⟩, Below.refl _ _⟩
    · unfold fin at h; rw [e] at h; exact h.elim
    · right; rw [e]; cases s <;> decide +kernel
  | nan s t =>
    have hn : isNan x := ⟨s, t, e⟩
    have hf : ∀ r, FR x r := fun r => ⟨fun h => by unfold fin at h; rw [e] at h; exact h.elim, fun _ => Or.inl hn⟩
    dsimp only
    split
    · exact ⟨_, w, rfl, hf _, Below.refl _ _⟩
    · have hq : (Question.extern "math.Floor,Ceil,Trunc,RoundToEven.signallingNaN kept" 2).forced = false := by simp [Question.forced]
      generalize Question.extern "math.Floor,Ceil,Trunc,RoundToEven.signallingNaN kept" 2 = q at hq
      refine ⟨if q.cut (w.tape w.drawn q) == 1 then x else F.write (.nan s (F.quiet t)), w.drew, ?_, hf _, (Below.refl _ _).drew⟩
      simp [go_sem]
      have e2 : ∀ (A B : Result Nat), (if q.forced = true then A else B) = B := fun A B => by rw [hq]; rfl
      exact congrArg (fun z => (Result.andThen (Result.andThen z _) _)) (e2 (.ok 0 w) _)
set_option maxRecDepth 100000 in
theorem mfloor_r (x : Nat) (w : World) : Calls Try.prog 43 #[.float .f64 x] w (RPf (FR x) w) := by
  obtain ⟨r, w1, k, hR, hb⟩ := run51 x w
  have H := Lib.hid (And.intro hR hb)
  clear hR hb
  go_enter Try.func43, Try.ntmps43
  go_wp2
  go_ret
  exact ⟨r, H.out.1, rfl, H.out.2⟩
set_option maxRecDepth 100000 in
theorem floor_r (x : Nat) (w : World) : Calls Try.prog 27 #[fl x] w (RP (FR x) w) := by
  have st := st_fl
  go_enter Try.func27, Try.ntmps27
  go_wp2_with fail
  refine (mfloor_r _ _).mono ?_
  rintro e u ⟨r, hR, rfl, hbu⟩
  have H := Lib.hid hR
  clear hR
  have c0 : u.cell? ⟨w.heap.size + 1, 0, none⟩ = some (.float .f64 0) := after_call hbu (by simp [go_sem])
  have f0 : u.frozen? ⟨w.heap.size + 1, 0, none⟩ = false := after_frozen (v := .float .f64 0) hbu (by simp [go_sem]) (by simp [go_sem])
  have b0 : Below w.heap.size w u := (show Below w.heap.size w _ by repeat (first | exact Below.refl _ _ | refine Below.alloc ?_ (by first | omega | (simp <;> omega)) _)).trans (hbu.mono (by first | omega | (simp <;> omega)))
  clear hbu
  have c1 : (u.alloc (.cells #[.float .f64 r] 38)).cell? ⟨w.heap.size + 1, 0, none⟩ = some (.float .f64 0) := after_call ((Below.refl _ _).alloc (Nat.le_refl _) _) c0
  have f1 : (u.alloc (.cells #[.float .f64 r] 38)).frozen? ⟨w.heap.size + 1, 0, none⟩ = false := after_frozen (v := .float .f64 0) ((Below.refl _ _).alloc (Nat.le_refl _) _) c0 f0
  have b1 : Below w.heap.size w (u.alloc (.cells #[.float .f64 r] 38)) := b0.alloc b0.size _
  go_wp2_with (go_at_call 20; refine (new_c _ _).mono ?_; rintro e w' ⟨rfl, rfl⟩)
  refine bodyPost_ret (v := fl r) (by simp [results, Try.results27, go_sem, c1]) rfl ⟨_, H.out, rfl, ?_⟩
  repeat (first | exact b1 | refine Below.setCell ?_ (by first | omega | (simp <;> omega)) _)
set_option maxRecDepth 100000 in
theorem neg_c (x : Nat) (w : World) : Calls Try.prog 30 #[fl x] w fun e w' => e = .returned (fl (negB x)) ∧ Below w.heap.size w w' := by
  have st := st_fl
  have k := neg_fl
  go_enter Try.func30, Try.ntmps30
  go_wp2_with (go_at_call 20; refine (new_c _ _).mono ?_; rintro e w' ⟨rfl, rfl⟩)
  refine bodyPost_ret (v := fl (negB x)) (by simp [results, Try.results30, go_sem]) rfl ⟨rfl, ?_⟩
  repeat (first | exact Below.refl _ _ | refine Below.alloc ?_ (by simp <;> omega) _)

def curr (w : World) (p : Addr) : Value := (w.cell? p).getD default
theorem curr_of {w : World} {p : Addr} {v : Value} (h : w.cell? p = some v) : w.cell? p = some (curr w p) := by unfold curr; rw [h]; rfl
theorem set_same {W : World} {p : Addr} {v u : Value} (h : (W.setCell p v).cell? p = some u) : (W.setCell p v).cell? p = some v := by
  cases e : W.cell? p with
  | none => 
    exfalso; unfold World.setCell World.cell? at *; revert h e
    simp only [Array.getElem?_modify, if_true]
    cases W.heap[p.block]? with
    | none => simp
    | some o =>
      cases o <;> simp
      split
      · rename_i hh; intro h1; rw [h1] at hh; cases hh
      · intro h1 h2
        refine ⟨h1, ?_⟩
        rw [Array.getElem?_setIfInBounds] at h2
        by_cases c : p.off < Array.size ‹Array Value›
        · exact c
        · simp [c] at h2
  | some x => simp [go_sem, e]
def HS (w : World) (p0 p1 p2 p3 : Addr) (v0 v1 v2 : Value) (W : World) : Prop := W.cell? p0 = some v0 ∧ W.cell? p1 = some v1 ∧ W.cell? p2 = some v2 ∧ W.cell? p3 = some (curr W p3) ∧ W.frozen? p3 = false ∧ Below w.heap.size w W
theorem keepS {w W w' : World} {p0 p1 p2 p3 : Addr} {v0 v1 v2 : Value} (hb : Below W.heap.size W w') (h : HS w p0 p1 p2 p3 v0 v1 v2 W) : HS w p0 p1 p2 p3 v0 v1 v2 w' := by
  obtain ⟨h0, h1, h2, h3, h4, h5⟩ := h
  exact ⟨after_call hb h0, after_call hb h1, after_call hb h2, curr_of (after_call hb h3), after_frozen hb h3 h4, h5.trans (hb.mono h5.size)⟩
theorem keepSt {w W : World} {p0 p1 p2 p3 : Addr} {v0 v1 v2 v : Value} (d0 : p0 ≠ p3) (d1 : p1 ≠ p3) (d2 : p2 ≠ p3) (hB : w.heap.size ≤ p3.block) (h : HS w p0 p1 p2 p3 v0 v1 v2 W) : HS w p0 p1 p2 p3 v0 v1 v2 (W.setCell p3 v) := by
  obtain ⟨h0, h1, h2, h3, h4, h5⟩ := h
  refine ⟨?_, ?_, ?_, curr_of (v := v) ?_, ?_, h5.setCell hB _⟩
  · simp [go_sem, d0.symm, h0]
  · simp [go_sem, d1.symm, h1]
  · simp [go_sem, d2.symm, h2]
  · simp [go_sem, h3]
  · simp [go_sem, h4]
/-- what Lerp gives -/
def LR (a b t r : Nat) : Prop := ∃ d m, BR .sub b a d ∧ BR .mul d t m ∧ BR .add m a r
set_option maxRecDepth 100000 in
set_option maxHeartbeats 2000000 in
theorem lerp_r (a b t : Nat) (w : World) : Calls Try.prog 29 #[fl a, fl b, fl t] w (RP (LR a b t) w) := by
  have st := st_fl
  go_enter Try.func29, Try.ntmps29
  go_wp2_with fail
  generalize hW : ((((w.alloc _).alloc _).alloc _).alloc _) = W
  have a0 : W.cell? ⟨w.heap.size, 0, none⟩ = some (.float .f64 a) := by rw [← hW]; simp [go_sem]
  have a1 : W.cell? ⟨w.heap.size + 1, 0, none⟩ = some (.float .f64 b) := by rw [← hW]; simp [go_sem]
  have a2 : W.cell? ⟨w.heap.size + 1 + 1, 0, none⟩ = some (.float .f64 t) := by rw [← hW]; simp [go_sem]
  have a3 : W.cell? ⟨w.heap.size + 1 + 1 + 1, 0, none⟩ = some (.float .f64 0) := by rw [← hW]; simp [go_sem]
  have af : W.frozen? ⟨w.heap.size + 1 + 1 + 1, 0, none⟩ = false := by rw [← hW]; simp [go_sem]
  have aB : Below w.heap.size w W := by rw [← hW]; repeat (first | exact Below.refl _ _ | refine Below.alloc ?_ (by first | omega | (simp <;> omega)) _)
  clear hW
  go_region_held3 (fun w' => w'.cell? ⟨w.heap.size, 0, none⟩ = some (.float .f64 a) ∧ w'.cell? ⟨w.heap.size + 1, 0, none⟩ = some (.float .f64 b) ∧ w'.cell? ⟨w.heap.size + 1 + 1, 0, none⟩ = some (.float .f64 t) ∧ w'.cell? ⟨w.heap.size + 1 + 1 + 1, 0, none⟩ = some (curr w' ⟨w.heap.size + 1 + 1 + 1, 0, none⟩) ∧ w'.frozen? ⟨w.heap.size + 1 + 1 + 1, 0, none⟩ = false ∧ Below w.heap.size w w')
    (first | assumption | exact ⟨a0, a1, a2, curr_of a3, af, aB.drew⟩ | exact keepS (by assumption) (by assumption) | exact keepSt (by simp) (by simp) (by simp) (by simp <;> omega) (by assumption))
    (first | (go_at_call 26; refine (sub_r _ _ _).mono ?_; rintro e w' ⟨r1, hR1, rfl, hb1⟩; replace hR1 := Lib.hid hR1) | (go_at_call 36; refine (mul_r _ _ _).mono ?_; rintro e w' ⟨r2, hR2, rfl, hb2⟩; replace hR2 := Lib.hid hR2) | (go_at_call 32; refine (add_r _ _ _).mono ?_; rintro e w' ⟨r3, hR3, rfl, hb3⟩; replace hR3 := Lib.hid hR3))
  rename_i hH
  obtain ⟨-, -, -, hs, -, hB⟩ := hH
  replace hs := set_same hs
  clear a0 a1 a2 a3 af aB hb1 hb2 hb3
  go_wp2
  refine bodyPost_ret (v := fl r3) (by simp [results, Try.results29, go_sem, hs]) rfl ⟨_, ⟨_, _, hR1.out, hR2.out, hR3.out⟩, rfl, hB⟩


def HV (w : World) (q : Nat) (a b s : Nat) (V : World) : Prop := V.cell? ⟨w.heap.size, 0, none⟩ = some (.float .f64 a) ∧ V.cell? ⟨w.heap.size + 1, 0, none⟩ = some (.float .f64 b) ∧ V.cell? ⟨w.heap.size + 1 + 1, 0, none⟩ = some (.float .f64 s) ∧ V.cell? ⟨w.heap.size + 1 + 1 + 1, 0, none⟩ = some (.float .f64 0) ∧ V.cell? ⟨q, 0, none⟩ = some (curr V ⟨q, 0, none⟩) ∧ V.frozen? ⟨w.heap.size + 1 + 1 + 1, 0, none⟩ = false ∧ V.frozen? ⟨q, 0, none⟩ = false ∧ Below w.heap.size w V
theorem HV.after {w : World} {q a b s : Nat} {V V' : World} (h : HV w q a b s V) (hb : Below V.heap.size V V') : HV w q a b s V' := by
  obtain ⟨h0, h1, h2, h3, h4, f3, f4, hB⟩ := h
  exact ⟨after_call hb h0, after_call hb h1, after_call hb h2, after_call hb h3, curr_of (after_call hb h4), after_frozen hb h3 f3, after_frozen hb h4 f4, hB.trans (hb.mono hB.size)⟩
theorem HV.set {w : World} {q a b s : Nat} {V : World} (h : HV w q a b s V) (hq : w.heap.size + 1 + 1 + 1 < q) (v : Value) : HV w q a b s (V.setCell ⟨q, 0, none⟩ v) := by
  obtain ⟨h0, h1, h2, h3, h4, f3, f4, hB⟩ := h
  have n0 : q ≠ w.heap.size := by omega
  have n1 : q ≠ w.heap.size + 1 := by omega
  have n2 : q ≠ w.heap.size + 1 + 1 := by omega
  have n3 : q ≠ w.heap.size + 1 + 1 + 1 := by omega
  refine ⟨?_, ?_, ?_, ?_, curr_of (v := v) ?_, ?_, ?_, hB.setCell (by simp <;> omega) _⟩
  · simp [go_sem, n0, h0]
  · simp [go_sem, n1, h1]
  · simp [go_sem, n2, h2]
  · simp [go_sem, n3, h3]
  · simp [go_sem, h4]
  · simp [go_sem, f3]
  · simp [go_sem, f4]
theorem val_b (f : Nat) (w : World) : Calls Try.prog 21 #[fl f] w fun e w' => e = .returned (.float .f64 f) ∧ Below w.heap.size w w' :=
  (val_c f w).mono fun e w' ⟨he, hw⟩ => ⟨he, by rw [← hw]; exact (Below.refl _ _).alloc (Nat.le_refl _) _⟩
def HR (a b s r : Nat) : Prop := (ltB s 4607182418800017408 = true ∧ LR a b s r) ∨ (ltB s 4607182418800017408 = false ∧ ltB s 4613937818241073152 = true ∧ r = b) ∨
  (ltB s 4607182418800017408 = false ∧ ltB s 4613937818241073152 = false ∧ ltB s 4616189618054758400 = true ∧ ∃ q, BR .add (negB s) 4616189618054758400 q ∧ LR a b q r) ∨
  (ltB s 4607182418800017408 = false ∧ ltB s 4613937818241073152 = false ∧ ltB s 4616189618054758400 = false ∧ r = a)
def HueR (a b t r : Nat) : Prop := ∃ f d s, FR t f ∧ BR .sub t f d ∧ BR .mul d 4618441417868443648 s ∧ HR a b s r
set_option maxRecDepth 100000 in
set_option maxHeartbeats 4000000 in
theorem hue_r (a b t : Nat) (w : World) : Calls Try.prog 19 #[fl a, fl b, fl t] w (RP (HueR a b t) w) := by
  have st := st_fl
  go_enter Try.func19, Try.ntmps19
  go_wp2_with fail
  generalize hW : ((((w.alloc _).alloc _).alloc _).alloc _) = W
  have a0 : W.cell? ⟨w.heap.size, 0, none⟩ = some (.float .f64 a) := by rw [← hW]; simp [go_sem]
  have a1 : W.cell? ⟨w.heap.size + 1, 0, none⟩ = some (.float .f64 b) := by rw [← hW]; simp [go_sem]
  have a2 : W.cell? ⟨w.heap.size + 1 + 1, 0, none⟩ = some (.float .f64 t) := by rw [← hW]; simp [go_sem]
  have a3 : W.cell? ⟨w.heap.size + 1 + 1 + 1, 0, none⟩ = some (.float .f64 0) := by rw [← hW]; simp [go_sem]
  have f2 : W.frozen? ⟨w.heap.size + 1 + 1, 0, none⟩ = false := by rw [← hW]; simp [go_sem]
  have f3 : W.frozen? ⟨w.heap.size + 1 + 1 + 1, 0, none⟩ = false := by rw [← hW]; simp [go_sem]
  have aB : Below w.heap.size w W := by rw [← hW]; repeat (first | exact Below.refl _ _ | refine Below.alloc ?_ (by first | omega | (simp <;> omega)) _)
  clear hW
  go_region_with (first | (go_at_call 27; refine (floor_r _ _).mono ?_; rintro e u1 ⟨r1, hR1, rfl, hb1⟩; replace hR1 := Lib.hid hR1; have b2 := after_call hb1 a2) | (go_at_call 26; refine (sub_r _ _ _).mono ?_; rintro e u2 ⟨r2, hR2, rfl, hb2⟩; replace hR2 := Lib.hid hR2; have c0 := after_call hb2 (after_call hb1 a0); have c1 := after_call hb2 (after_call hb1 a1); have c2 := after_call hb2 (after_call hb1 a2); have c3 := after_call hb2 (after_call hb1 a3); have g2 := after_frozen hb2 (after_call hb1 a2) (after_frozen hb1 a2 f2); have g3 := after_frozen hb2 (after_call hb1 a3) (after_frozen hb1 a3 f3); have cB := (aB.drew.trans (hb1.mono aB.size)).trans (hb2.mono (Nat.le_trans aB.size hb1.size)); clear hb1 hb2 a0 a1 a2 a3 f2 f3 aB b2))
  all_goals
    generalize hU : u2.setCell _ _ = U
    have d0 : U.cell? ⟨w.heap.size, 0, none⟩ = some (.float .f64 a) := by rw [← hU]; simp [go_sem, c0]
    have d1 : U.cell? ⟨w.heap.size + 1, 0, none⟩ = some (.float .f64 b) := by rw [← hU]; simp [go_sem, c1]
    have d2 : U.cell? ⟨w.heap.size + 1 + 1, 0, none⟩ = some (.float .f64 r2) := by rw [← hU]; simp [go_sem, c2]
    have d3 : U.cell? ⟨w.heap.size + 1 + 1 + 1, 0, none⟩ = some (.float .f64 0) := by rw [← hU]; simp [go_sem, c3]
    have e2 : U.frozen? ⟨w.heap.size + 1 + 1, 0, none⟩ = false := by rw [← hU]; simp [go_sem, g2]
    have e3 : U.frozen? ⟨w.heap.size + 1 + 1 + 1, 0, none⟩ = false := by rw [← hU]; simp [go_sem, g3]
    have dB : Below w.heap.size w U := by rw [← hU]; exact cB.setCell (by simp <;> omega) _
    clear c0 c1 c2 c3 g2 g3 cB hU
    go_wp2_with fail
    refine (mulK_r _ _ _).mono ?_
    rintro e u3 ⟨r3, hR3, rfl, hb3⟩
    replace hR3 := Lib.hid hR3
    have c0 := after_call hb3 d0
    have c1 := after_call hb3 d1
    have c2 := after_call hb3 d2
    have c3 := after_call hb3 d3
    have g2 := after_frozen hb3 d2 e2
    have g3 := after_frozen hb3 d3 e3
    have cB := dB.trans (hb3.mono dB.size)
    have sz : w.heap.size + 1 + 1 + 1 < u3.heap.size := block_lt_of_cell c3
    clear d0 d1 d2 d3 e2 e3 dB hb3
    have y0 : ((u3.setCell ⟨w.heap.size + 1 + 1, 0, none⟩ (.float .f64 r3)).alloc (.cells #[.float .f64 0] 38)).cell? ⟨w.heap.size, 0, none⟩ = some (.float .f64 a) := after_call ((Below.refl _ _).alloc (Nat.le_refl _) _) (by simp [go_sem, c0])
    have y1 : ((u3.setCell ⟨w.heap.size + 1 + 1, 0, none⟩ (.float .f64 r3)).alloc (.cells #[.float .f64 0] 38)).cell? ⟨w.heap.size + 1, 0, none⟩ = some (.float .f64 b) := after_call ((Below.refl _ _).alloc (Nat.le_refl _) _) (by simp [go_sem, c1])
    have y2 : ((u3.setCell ⟨w.heap.size + 1 + 1, 0, none⟩ (.float .f64 r3)).alloc (.cells #[.float .f64 0] 38)).cell? ⟨w.heap.size + 1 + 1, 0, none⟩ = some (.float .f64 r3) := after_call ((Below.refl _ _).alloc (Nat.le_refl _) _) (by simp [go_sem, c2])
    have y3 : ((u3.setCell ⟨w.heap.size + 1 + 1, 0, none⟩ (.float .f64 r3)).alloc (.cells #[.float .f64 0] 38)).cell? ⟨w.heap.size + 1 + 1 + 1, 0, none⟩ = some (.float .f64 0) := after_call ((Below.refl _ _).alloc (Nat.le_refl _) _) (by simp [go_sem, c3])
    have y4 : ((u3.setCell ⟨w.heap.size + 1 + 1, 0, none⟩ (.float .f64 r3)).alloc (.cells #[.float .f64 0] 38)).cell? ⟨u3.heap.size, 0, none⟩ = some (.float .f64 0) := by simp [go_sem]
    have x3 : ((u3.setCell ⟨w.heap.size + 1 + 1, 0, none⟩ (.float .f64 r3)).alloc (.cells #[.float .f64 0] 38)).frozen? ⟨w.heap.size + 1 + 1 + 1, 0, none⟩ = false := after_frozen (v := .float .f64 0) ((Below.refl _ _).alloc (Nat.le_refl _) _) (by simp [go_sem, c3]) (by simp [go_sem, g3])
    have x4 : ((u3.setCell ⟨w.heap.size + 1 + 1, 0, none⟩ (.float .f64 r3)).alloc (.cells #[.float .f64 0] 38)).frozen? ⟨u3.heap.size, 0, none⟩ = false := by simp [go_sem]
    have yB : Below w.heap.size w ((u3.setCell ⟨w.heap.size + 1 + 1, 0, none⟩ (.float .f64 r3)).alloc (.cells #[.float .f64 0] 38)) := (cB.setCell (by simp <;> omega) _).alloc (Nat.le_trans cB.size (by simp)) _
    have yN : u3.heap.size ≠ w.heap.size + 1 + 1 + 1 := by omega
    have yN' : u3.heap.size ≠ w.heap.size + 1 + 1 := by omega
    have yS : w.heap.size ≤ u3.heap.size := by omega
    go_wp2_with fail
    have hv : HV w u3.heap.size a b r3 ((u3.setCell ⟨w.heap.size + 1 + 1, 0, none⟩ (.float .f64 r3)).alloc (.cells #[.float .f64 0] 38)) := ⟨y0, y1, y2, y3, curr_of y4, x3, x4, yB⟩
    clear y0 y1 y2 y3 y4 x3 x4 yB c0 c1 c2 c3 g2 g3 cB
    revert hv
    generalize ((u3.setCell ⟨w.heap.size + 1 + 1, 0, none⟩ (.float .f64 r3)).alloc (.cells #[.float .f64 0] 38)) = V
    intro hv
    generalize u3.heap.size = q at *
    refine (val_b _ _).mono ?_
    rintro e V1 ⟨rfl, hb⟩
    replace hv := hv.after hb
    clear hb
    have hv' := Lib.hid hv
    obtain ⟨h0, h1, h2, h3, h4, f3, f4, hB⟩ := hv
    cases l1 : ltB r3 4607182418800017408 with
    | true =>
      have l1' : (FloatKind.f64.format.order r3 4607182418800017408 == some .lt) = true := l1
      have L1 := Lib.hid l1
      clear l1
      go_wp2_with fail
      refine (lerp_r _ _ _ _).mono ?_
      rintro e V2 ⟨r4, hR4, rfl, hb⟩
      replace hR4 := Lib.hid hR4
      replace hv' := hv'.out.after hb
      clear hb h0 h1 h2 h3 h4 f3 f4 hB
      obtain ⟨h0, h1, h2, h3, h4, f3, f4, hB⟩ := hv'
      go_wp2
      refine bodyPost_ret (v := fl r4) (by simp [results, Try.results19, go_sem, h3, h4, yN]) rfl ⟨_, ⟨_, _, _, hR1.out, hR2.out, hR3.out, Or.inl ⟨L1.out, hR4.out⟩⟩, rfl, ?_⟩
      repeat (first | exact hB | refine Below.setCell ?_ (by first | omega | (simp <;> omega)) _)
    | false =>
      have l1' : (FloatKind.f64.format.order r3 4607182418800017408 == some .lt) = false := l1
      have L1 := Lib.hid l1
      clear l1
      go_wp2_with fail
      refine (val_b _ _).mono ?_
      rintro e V2 ⟨rfl, hb⟩
      replace hv' := hv'.out.after hb
      clear hb h0 h1 h2 h3 h4 f3 f4 hB
      obtain ⟨h0, h1, h2, h3, h4, f3, f4, hB⟩ := hv'
      have hv' : HV w q a b r3 V2 := ⟨h0, h1, h2, h3, h4, f3, f4, hB⟩
      replace hv' := Lib.hid hv'
      cases l3 : ltB r3 4613937818241073152 with
      | true =>
        have l3' : (FloatKind.f64.format.order r3 4613937818241073152 == some .lt) = true := l3
        have L3 := Lib.hid l3
        clear l3
        go_wp2
        refine bodyPost_ret (v := fl b) (by simp [results, Try.results19, go_sem, h3, h4, yN]) rfl ⟨_, ⟨_, _, _, hR1.out, hR2.out, hR3.out, Or.inr (Or.inl ⟨L1.out, L3.out, rfl⟩)⟩, rfl, ?_⟩
        repeat (first | exact hB | refine Below.setCell ?_ (by first | omega | (simp <;> omega)) _)
      | false =>
        have l3' : (FloatKind.f64.format.order r3 4613937818241073152 == some .lt) = false := l3
        have L3 := Lib.hid l3
        clear l3
        go_wp2_with fail
        refine (val_b _ _).mono ?_
        rintro e V3 ⟨rfl, hb⟩
        replace hv' := hv'.out.after hb
        clear hb h0 h1 h2 h3 h4 f3 f4 hB
        obtain ⟨h0, h1, h2, h3, h4, f3, f4, hB⟩ := hv'
        have hv' : HV w q a b r3 V3 := ⟨h0, h1, h2, h3, h4, f3, f4, hB⟩
        replace hv' := Lib.hid hv'
        cases l4 : ltB r3 4616189618054758400 with
        | false =>
          have l4' : (FloatKind.f64.format.order r3 4616189618054758400 == some .lt) = false := l4
          have L4 := Lib.hid l4
          clear l4
          go_wp2
          refine bodyPost_ret (v := fl a) (by simp [results, Try.results19, go_sem, h3, h4, yN]) rfl ⟨_, ⟨_, _, _, hR1.out, hR2.out, hR3.out, Or.inr (Or.inr (Or.inr ⟨L1.out, L3.out, L4.out, rfl⟩))⟩, rfl, ?_⟩
          repeat (first | exact hB | refine Below.setCell ?_ (by first | omega | (simp <;> omega)) _)
        | true =>
          have l4' : (FloatKind.f64.format.order r3 4616189618054758400 == some .lt) = true := l4
          have L4 := Lib.hid l4
          clear l4
          go_wp2_with fail
          clear h0 h1 h2 h3 h4 f3 f4 hB
          replace hv' := hv'.out
          go_region_held3 (fun V => V.cell? ⟨w.heap.size, 0, none⟩ = some (.float .f64 a) ∧ V.cell? ⟨w.heap.size + 1, 0, none⟩ = some (.float .f64 b) ∧ V.cell? ⟨w.heap.size + 1 + 1, 0, none⟩ = some (.float .f64 r3) ∧ V.cell? ⟨w.heap.size + 1 + 1 + 1, 0, none⟩ = some (.float .f64 0) ∧ V.cell? ⟨q, 0, none⟩ = some (curr V ⟨q, 0, none⟩) ∧ V.frozen? ⟨w.heap.size + 1 + 1 + 1, 0, none⟩ = false ∧ V.frozen? ⟨q, 0, none⟩ = false ∧ Below w.heap.size w V)
            (first | assumption | exact hv'.after ((Below.refl _ _).drew) | exact HV.after (by assumption) (by assumption) | exact HV.set (by assumption) sz _)
            (first | (go_at_call 30; refine (neg_c _ _).mono ?_; rintro e V4 ⟨rfl, hb4⟩) | (go_at_call 31; (with_reducible refine (addK_r _ _ _).mono ?_); rintro e V5 ⟨r5, hR5, rfl, hb5⟩; replace hR5 := Lib.hid hR5) | (go_at_call 29; (with_reducible refine (lerp_r _ _ _ _).mono ?_); rintro e V6 ⟨r6, hR6, rfl, hb6⟩; replace hR6 := Lib.hid hR6))
          rename_i hH
          obtain ⟨-, -, -, h3, hq, f3, -, hB⟩ := hH
          replace hq := set_same hq
          clear hv'
          go_wp2
          refine bodyPost_ret (v := fl r6) (by simp [results, Try.results19, go_sem, h3, hq]) rfl ⟨_, ⟨_, _, _, hR1.out, hR2.out, hR3.out, Or.inr (Or.inr (Or.inl ⟨L1.out, L3.out, L4.out, _, hR5.out, hR6.out⟩))⟩, rfl, ?_⟩
          repeat (first | exact hB | refine Below.setCell ?_ (by first | omega | (simp <;> omega)) _)
set_option maxRecDepth 100000 in
set_option maxHeartbeats 1000000 in
theorem zz_r (a b t : Nat) (w : World) : Calls Try.prog 8 #[.float .f64 a, .float .f64 b, .float .f64 t] w (RPf (HueR a b t) w) := by
  go_enter Try.func8, Try.ntmps8
  go_wp2_with (first | (go_at_call 20; refine (new_c _ _).mono ?_; rintro e w' ⟨rfl, rfl⟩) | (go_at_call 19; (with_reducible refine (hue_r _ _ _ _).mono ?_); rintro e w' ⟨r, hR, rfl, hb⟩; replace hR := Lib.hid hR; replace hb := (show Below w.heap.size w _ by repeat (first | exact Below.refl _ _ | refine Below.alloc ?_ (by first | omega | (simp <;> omega)) _)).trans (hb.mono (by first | omega | (simp <;> omega)))) | (go_at_call 21; refine (val_c _ _).mono ?_; rintro e w2 ⟨rfl, rfl⟩))
  go_ret
  exact ⟨_, hR.out, rfl, hb.alloc hb.size _⟩
theorem k0 : fin 0 ∧ val 0 = 0 := const_val (by decide +kernel) (by decide +kernel)
theorem k1 : fin 4607182418800017408 ∧ val 4607182418800017408 = 1 := const_val (by decide +kernel) (by decide +kernel)
theorem k3 : fin 4613937818241073152 ∧ val 4613937818241073152 = 3 := const_val (by decide +kernel) (by decide +kernel)
theorem k4 : fin 4616189618054758400 ∧ val 4616189618054758400 = 4 := const_val (by decide +kernel) (by decide +kernel)
theorem k6 : fin 4618441417868443648 ∧ val 4618441417868443648 = 6 := const_val (by decide +kernel) (by decide +kernel)
theorem big : (2 : Rat) ^ 100 ≤ two 1022 := by unfold two; decide +kernel
theorem abs_big {x y : Rat} (h1 : -y ≤ x) (h2 : x ≤ y) (hy : y ≤ 2 ^ 100) : Abs x (two 1022) := by
  have := big; unfold Abs; constructor <;> grind
theorem br_some {op : BinOp} {x y r r' : Nat} (h : BR op x y r) (e : floatBits op .f64 x y = some r') : r = r' := by
  rcases h with h | ⟨h, -⟩ <;> rw [e] at h <;> cases h; rfl
theorem bits_lt {op : BinOp} {x y r : Nat} (h : floatBits op .f64 x y = some r) : r < 2 ^ 64 := by
  have := floatBits_wf h
  simpa [Lit.wf] using this
theorem fi_val (n : Int) (h1 : -(2 ^ 42) ≤ n) (h2 : n ≤ 2 ^ 42) : fin (floatOfInt .f64 n) ∧ val (floatOfInt .f64 n) = (n : Rat) := by
  have e : floatOfInt .f64 n = F.nearest (decide (n < 0)) n.natAbs 0 := rfl
  rw [e]
  obtain ⟨a, b⟩ := nearest_exact (decide (n < 0)) n.natAbs 0 n.natAbs 0 (by omega) (by decide) (by decide) rfl
  refine ⟨a, ?_⟩
  rw [b]
  have : two 0 = 1 := by unfold two; decide +kernel
  rw [this]
  by_cases c : n < 0
  · have e2 : ((n.natAbs : Nat) : Rat) = -(n : Rat) := by
      have : ((n.natAbs : Nat) : Int) = -n := by omega
      exact_mod_cast congrArg (fun z : Int => (z : Rat)) this
    simp [c, sg, e2] <;> grind
  · have e2 : ((n.natAbs : Nat) : Rat) = (n : Rat) := by
      have : ((n.natAbs : Nat) : Int) = n := by omega
      exact_mod_cast congrArg (fun z : Int => (z : Rat)) this
    simp [c, sg, e2]

/-- a straight line between two whole ends stays between them -/
theorem lerp_mid {a b : Int} (ha1 : -(2 ^ 40) ≤ a) (ha2 : a ≤ 2 ^ 40) (hb1 : -(2 ^ 40) ≤ b) (hb2 : b ≤ 2 ^ 40) {q r : Nat} (fq : fin q) (q0 : 0 ≤ val q) (q1 : val q ≤ 1)
    (h : LR (floatOfInt .f64 a) (floatOfInt .f64 b) q r) : fin r ∧ (a ≤ b → (a : Rat) ≤ val r ∧ val r ≤ (b : Rat)) ∧ (b ≤ a → (b : Rat) ≤ val r ∧ val r ≤ (a : Rat)) := by
  obtain ⟨d, m, hd, hm, hr⟩ := h
  obtain ⟨fa, va⟩ := fi_val a (by omega) (by omega)
  obtain ⟨fb, vb⟩ := fi_val b (by omega) (by omega)
  obtain ⟨fd', vd'⟩ := fi_val (b - a) (by omega) (by omega)
  generalize hA : floatOfInt .f64 a = A at *
  generalize hBB : floatOfInt .f64 b = B at *
  generalize floatOfInt .f64 (b - a) = D at *
  have ra1 : (-(2 ^ 40) : Rat) ≤ (a : Rat) := by
    rw [← show ((-1099511627776 : Int) : Rat) = -(2 ^ 40) by decide +kernel]; exact Rat.intCast_le_intCast.mpr (by omega)
  have ra2 : (a : Rat) ≤ 2 ^ 40 := by
    rw [← show ((1099511627776 : Int) : Rat) = (2 ^ 40) by decide +kernel]; exact Rat.intCast_le_intCast.mpr (by omega)
  have rb1 : (-(2 ^ 40) : Rat) ≤ (b : Rat) := by
    rw [← show ((-1099511627776 : Int) : Rat) = -(2 ^ 40) by decide +kernel]; exact Rat.intCast_le_intCast.mpr (by omega)
  have rb2 : (b : Rat) ≤ 2 ^ 40 := by
    rw [← show ((1099511627776 : Int) : Rat) = (2 ^ 40) by decide +kernel]; exact Rat.intCast_le_intCast.mpr (by omega)
  have vD : val D = (b : Rat) - (a : Rat) := by rw [vd']; push_cast; rfl
  obtain ⟨d1, e1, fd, md⟩ := sub_mono B A fb fa (abs_big (y := 2 ^ 41) (by rw [va, vb]; grind) (by rw [va, vb]; grind) (by decide +kernel))
  obtain rfl := br_some hd e1
  have vd : val d = (b : Rat) - (a : Rat) := by
    have := md D fd'
    rw [va, vb, vD] at this
    have h1 := this.1 (by grind)
    have h2 := this.2 (by grind)
    grind
  -- the product
  have P1 : (a ≤ b → 0 ≤ val d * val q ∧ val d * val q ≤ val d) ∧ (b ≤ a → val d ≤ val d * val q ∧ val d * val q ≤ 0) := by
    constructor
    · intro h
      have : (0 : Rat) ≤ val d := by rw [vd]; have : (a : Rat) ≤ b := by exact_mod_cast h
                                     grind
      constructor
      · exact Rat.mul_nonneg this q0
      · have := Rat.mul_le_mul_of_nonneg_left q1 this; grind
    · intro h
      have : (0 : Rat) ≤ - val d := by rw [vd]; have : (b : Rat) ≤ a := by exact_mod_cast h
                                       grind
      constructor
      · have := Rat.mul_le_mul_of_nonneg_left q1 this; grind
      · have := Rat.mul_nonneg this q0; grind
  have ab : a ≤ b ∨ b ≤ a := by omega
  have Bd : -(2 ^ 41 : Rat) ≤ val d * val q ∧ val d * val q ≤ 2 ^ 41 := by
    rcases ab with h | h
    · obtain ⟨x, y⟩ := P1.1 h; constructor <;> grind
    · obtain ⟨x, y⟩ := P1.2 h; constructor <;> grind
  obtain ⟨m1, e2, fm, mm⟩ := mul_mono d q fd fq (abs_big (y := 2 ^ 41) Bd.1 Bd.2 (by decide +kernel))
  obtain rfl := br_some hm e2
  have M0 := mm 0 k0.1
  have MD := mm d fd
  rw [k0.2] at M0
  have P2 : (a ≤ b → 0 ≤ val m ∧ val m ≤ val d) ∧ (b ≤ a → val d ≤ val m ∧ val m ≤ 0) :=
    ⟨fun h => ⟨M0.2 (P1.1 h).1, MD.1 (P1.1 h).2⟩, fun h => ⟨MD.2 (P1.2 h).1, M0.1 (P1.2 h).2⟩⟩
  have Bm : -(2 ^ 42 : Rat) ≤ val m + val A ∧ val m + val A ≤ 2 ^ 42 := by
    rcases ab with h | h
    · obtain ⟨x, y⟩ := P2.1 h; constructor <;> grind
    · obtain ⟨x, y⟩ := P2.2 h; constructor <;> grind
  obtain ⟨r1, e3, fr, mr⟩ := add_mono m A fm fa (abs_big (y := 2 ^ 42) Bm.1 Bm.2 (by decide +kernel))
  obtain rfl := br_some hr e3
  have RA := mr A fa
  have RB := mr B fb
  refine ⟨fr, fun h => ?_, fun h => ?_⟩
  · obtain ⟨x, y⟩ := P2.1 h
    rw [← va, ← vb]
    exact ⟨RA.2 (by grind), RB.1 (by grind)⟩
  · obtain ⟨x, y⟩ := P2.2 h
    rw [← va, ← vb]
    exact ⟨RB.2 (by grind), RA.1 (by grind)⟩

theorem nan_mul {x y : Nat} (h : isNan x) : floatBits .mul .f64 x y = none := by
  obtain ⟨s, f, e⟩ := h
  show ((F.read x).product (F.read y)).map F.write = none
  rw [e]; cases F.read y <;> rfl
theorem nan_sub {x y : Nat} (h : isNan x) : floatBits .sub .f64 x y = none := by
  obtain ⟨s, f, e⟩ := h
  show ((F.read x).sum (F.read y).opposite).map F.write = none
  rw [e]; cases F.read y <;> rfl
theorem nan_ltB {x y : Nat} (h : isNan x) : ltB x y = false := by
  have := nan_order (y := y) h
  show (F.order x y == some .lt) = false
  rw [this]; rfl
theorem same_sub {x y : Nat} (hx : ¬ fin x) (hn : ¬ isNan x) (e : F.read y = F.read x) : floatBits .sub .f64 x y = none := by
  have := sub_inf hx hn
  change ((F.read x).sum (F.read x).opposite).map F.write = none at this
  show ((F.read x).sum (F.read y).opposite).map F.write = none
  rw [e]; exact this
theorem not_nan {x : Nat} (h : fin x) : ¬ isNan x := by
  rintro ⟨s, f, e⟩; unfold fin at h; rw [e] at h; exact h
/-- six times the hue's fraction: no number, or not negative -/
theorem six {t f d s : Nat} (h1 : FR t f) (h2 : BR .sub t f d) (h3 : BR .mul d 4618441417868443648 s) : isNan s ∨ (fin s ∧ 0 ≤ val s ∧ s < 2 ^ 64) := by
  by_cases ht : fin t
  · right
    have hf := h1.1 ht
    subst hf
    obtain ⟨ff, f1, f2⟩ := floor_val ht
    obtain ⟨d1, e1, fd, md⟩ := sub_mono t (floorB t) ht ff (abs_big (y := 1) (by grind) (by grind) (by decide +kernel))
    obtain rfl := br_some h2 e1
    have D0 := (md 0 k0.1).2 (by rw [k0.2]; grind)
    have D1 := (md _ k1.1).1 (by rw [k1.2]; grind)
    rw [k0.2] at D0
    rw [k1.2] at D1
    obtain ⟨s1, e2, fs, ms⟩ := mul_mono d 4618441417868443648 fd k6.1 (abs_big (y := 6) (by rw [k6.2]; grind) (by rw [k6.2]; grind) (by decide +kernel))
    obtain rfl := br_some h3 e2
    have S0 := (ms 0 k0.1).2 (by rw [k0.2, k6.2]; grind)
    rw [k0.2] at S0
    exact ⟨fs, S0, bits_lt e2⟩
  · left
    have e1 : floatBits .sub .f64 t f = none := by
      by_cases hn : isNan t
      · exact nan_sub hn
      · rcases h1.2 ht with c | c
        · exact (hn c).elim
        · exact same_sub ht hn c
    have nd : isNan d := by
      rcases h2 with c | ⟨-, c⟩
      · rw [e1] at c; cases c
      · exact c
    rcases h3 with c | ⟨-, c⟩
    · rw [nan_mul nd] at c; cases c
    · exact c
theorem hue_mid {a b : Int} (ha1 : -(2 ^ 40) ≤ a) (ha2 : a ≤ 2 ^ 40) (hb1 : -(2 ^ 40) ≤ b) (hb2 : b ≤ 2 ^ 40) {t r : Nat}
    (h : HueR (floatOfInt .f64 a) (floatOfInt .f64 b) t r) : fin r ∧ (a ≤ b → (a : Rat) ≤ val r ∧ val r ≤ (b : Rat)) ∧ (b ≤ a → (b : Rat) ≤ val r ∧ val r ≤ (a : Rat)) := by
  obtain ⟨f, d, s, h1, h2, h3, h⟩ := h
  have hs := six h1 h2 h3
  obtain ⟨fa, va⟩ := fi_val a (by omega) (by omega)
  obtain ⟨fb, vb⟩ := fi_val b (by omega) (by omega)
  rcases h with ⟨l1, hL⟩ | ⟨l1, l3, rfl⟩ | ⟨l1, l3, l4, q, hq, hL⟩ | ⟨l1, l3, l4, rfl⟩
  · rcases hs with c | ⟨fs, s0, -⟩
    · rw [nan_ltB c] at l1; cases l1
    · have := (ltB_iff fs k1.1).1 l1
      rw [k1.2] at this
      exact lerp_mid ha1 ha2 hb1 hb2 fs s0 (by grind) hL
  · refine ⟨fb, fun h => ⟨?_, ?_⟩, fun h => ⟨?_, ?_⟩⟩ <;> rw [vb] <;> first | exact Rat.intCast_le_intCast.mpr (by omega) | exact Rat.le_refl
  · rcases hs with c | ⟨fs, s0, sw⟩
    · rw [nan_ltB c] at l4; cases l4
    · have v4 := (ltB_iff fs k4.1).1 l4
      rw [k4.2] at v4
      have v3 : 3 ≤ val s := by
        by_cases c : val s < 3
        · have := (ltB_iff fs k3.1).2 (by rw [k3.2]; exact c)
          rw [l3] at this; cases this
        · grind
      obtain ⟨fn, vn⟩ := negB_val sw fs
      obtain ⟨q1, e1, fq, mq⟩ := add_mono (negB s) 4616189618054758400 fn k4.1 (abs_big (y := 1) (by rw [vn, k4.2]; grind) (by rw [vn, k4.2]; grind) (by decide +kernel))
      obtain rfl := br_some hq e1
      have Q0 := (mq 0 k0.1).2 (by rw [k0.2, vn, k4.2]; grind)
      have Q1 := (mq _ k1.1).1 (by rw [k1.2, vn, k4.2]; grind)
      rw [k0.2] at Q0
      rw [k1.2] at Q1
      exact lerp_mid ha1 ha2 hb1 hb2 fq Q0 Q1 hL
  · refine ⟨fa, fun h => ⟨?_, ?_⟩, fun h => ⟨?_, ?_⟩⟩ <;> rw [va] <;> first | exact Rat.intCast_le_intCast.mpr (by omega) | exact Rat.le_refl

theorem ret_bool {a b : Bool} (h : a = b) : Ending.returned (.bool a) = .returned (.bool b) := by rw [h]
set_option maxHeartbeats 1000000 in
theorem law_out (a b : Int) (t : Nat) (w : World) (h : a < -1099511627776 ∨ 1099511627776 < a ∨ b < -1099511627776 ∨ 1099511627776 < b) : Calls Try.prog 3 #[.int .i64 a, .int .i64 b, .float .f64 t] w fun e w' => e = .returned (.bool true) ∧ Below w.heap.size w w' := by
  by_cases h1 : a < -1099511627776
  · clear h
    go_enter Try.func3, Try.ntmps3
    go_wp2_with fail
    go_ret
    exact ⟨rfl, Below.refl _ _⟩
  · by_cases h2 : 1099511627776 < a
    · clear h
      go_enter Try.func3, Try.ntmps3
      go_wp2_with fail
      go_ret
      exact ⟨rfl, Below.refl _ _⟩
    · by_cases h3 : b < -1099511627776
      · clear h
        go_enter Try.func3, Try.ntmps3
        go_wp2_with fail
        go_ret
        exact ⟨rfl, Below.refl _ _⟩
      · have h4 : 1099511627776 < b := by omega
        clear h
        go_enter Try.func3, Try.ntmps3
        go_wp2_with fail
        go_ret
        exact ⟨rfl, Below.refl _ _⟩
/-- what the law compares -/
def Mid (lo hi r : Nat) : Prop := (FloatKind.f64.format.order r lo == some .gt || FloatKind.f64.format.order r lo == some .eq) = true ∧ (FloatKind.f64.format.order r hi == some .lt || FloatKind.f64.format.order r hi == some .eq) = true
theorem mid_lo {a b : Int} (ha1 : -(2 ^ 40) ≤ a) (ha2 : a ≤ 2 ^ 40) (hb1 : -(2 ^ 40) ≤ b) (hb2 : b ≤ 2 ^ 40) {t r : Nat} (h : HueR (floatOfInt .f64 a) (floatOfInt .f64 b) t r)
    (g : (FloatKind.f64.format.order (floatOfInt .f64 a) (floatOfInt .f64 b) == some .gt) = false) : Mid (floatOfInt .f64 a) (floatOfInt .f64 b) r := by
  obtain ⟨fr, h1, h2⟩ := hue_mid ha1 ha2 hb1 hb2 h
  obtain ⟨fa, va⟩ := fi_val a (by omega) (by omega)
  obtain ⟨fb, vb⟩ := fi_val b (by omega) (by omega)
  have ab : a ≤ b := by
    by_cases c : b < a
    · have := (gtB_iff fa fb).2 (by rw [va, vb]; exact Rat.intCast_lt_intCast.mpr c)
      have g' : gtB (floatOfInt .f64 a) (floatOfInt .f64 b) = false := g
      rw [g'] at this; cases this
    · omega
  obtain ⟨x, y⟩ := h1 ab
  exact ⟨(geB_iff fr fa).2 (by rw [va]; exact x), (leB_iff fr fb).2 (by rw [vb]; exact y)⟩
theorem mid_hi {a b : Int} (ha1 : -(2 ^ 40) ≤ a) (ha2 : a ≤ 2 ^ 40) (hb1 : -(2 ^ 40) ≤ b) (hb2 : b ≤ 2 ^ 40) {t r : Nat} (h : HueR (floatOfInt .f64 a) (floatOfInt .f64 b) t r)
    (g : (FloatKind.f64.format.order (floatOfInt .f64 a) (floatOfInt .f64 b) == some .gt) = true) : Mid (floatOfInt .f64 b) (floatOfInt .f64 a) r := by
  obtain ⟨fr, h1, h2⟩ := hue_mid ha1 ha2 hb1 hb2 h
  obtain ⟨fa, va⟩ := fi_val a (by omega) (by omega)
  obtain ⟨fb, vb⟩ := fi_val b (by omega) (by omega)
  have ab : b ≤ a := by
    have g' : gtB (floatOfInt .f64 a) (floatOfInt .f64 b) = true := g
    have := (gtB_iff fa fb).1 g'
    rw [va, vb] at this
    have := Rat.intCast_lt_intCast.mp this
    omega
  obtain ⟨x, y⟩ := h2 ab
  exact ⟨(geB_iff fr fb).2 (by rw [vb]; exact x), (leB_iff fr fa).2 (by rw [va]; exact y)⟩
set_option maxHeartbeats 1000000 in
theorem walk (a0 : Int) (a1 : Int) (a2 : Nat) (w0 : (Lit.int .i64 a0).wf = true) (w1 : (Lit.int .i64 a1).wf = true) (w2 : (Lit.float .f64 a2).wf = true) (w : World) :
    Calls Try.prog 3 #[.int .i64 a0, .int .i64 a1, .float .f64 a2] w fun e w' => e = .returned (.bool true) ∧ Below w.heap.size w w' := by
  by_cases hout : a0 < -1099511627776 ∨ 1099511627776 < a0 ∨ a1 < -1099511627776 ∨ 1099511627776 < a1
  · exact law_out a0 a1 a2 w hout
  · have h1 : ¬ a0 < -1099511627776 := by omega
    have h2 : ¬ 1099511627776 < a0 := by omega
    have h3 : ¬ a1 < -1099511627776 := by omega
    have h4 : ¬ 1099511627776 < a1 := by omega
    have M0 := Lib.hid (fun t r => mid_lo (a := a0) (b := a1) (t := t) (r := r) (by omega) (by omega) (by omega) (by omega))
    have M1 := Lib.hid (fun t r => mid_hi (a := a0) (b := a1) (t := t) (r := r) (by omega) (by omega) (by omega) (by omega))
    clear hout w0 w1 w2
    rcases (show (FloatKind.f64.format.order (floatOfInt .f64 a0) (floatOfInt .f64 a1) == some .gt) = true ∨ (FloatKind.f64.format.order (floatOfInt .f64 a0) (floatOfInt .f64 a1) == some .gt) = false by cases (FloatKind.f64.format.order (floatOfInt .f64 a0) (floatOfInt .f64 a1) == some .gt) <;> simp) with g | g
    · go_enter Try.func3, Try.ntmps3
      go_wp2_with (go_at_call 8; (with_reducible refine (zz_r _ _ _ _).mono ?_); rintro e w' ⟨r, hR, rfl, hb⟩; obtain ⟨m1, m2⟩ := M1.out _ _ hR g; clear hR)
      go_ret
      exact ⟨rfl, hb⟩
    · go_enter Try.func3, Try.ntmps3
      go_wp2_with (go_at_call 8; (with_reducible refine (zz_r _ _ _ _).mono ?_); rintro e w' ⟨r, hR, rfl, hb⟩; obtain ⟨m1, m2⟩ := M0.out _ _ hR g; clear hR)
      go_ret
      exact ⟨rfl, hb⟩
-- theorem walk (a0 : Int) (a1 : Int) (a2 : Nat) (w0 : (Lit.int .i64 a0).wf = true) (w1 : (Lit.int .i64 a1).wf = true) (w2 : (Lit.float .f64 a2).wf = true) (w : World) :
--    Calls Try.prog 3 #[.int .i64 a0, .int .i64 a1, .float .f64 a2] w fun e w' => e = .returned (.bool true) ∧ Below w.heap.size w w'
theorem own : ownKnob Try.prog.godebug = none := by kernel_rfl
set_option maxRecDepth 100000 in
theorem lifted (os : Os) (started : os.Started) (H : Type) (enc : TypeId × Value → H) :
    ReturnsInHanded {} Try.checked os 3 .any (Rows.fnHueToRgbStaysBetweenEndsSpec.pre6 enc Try.prog Try.f3 Rows.fnHueToRgbStaysBetweenEndsRow.domain false) (Rows.fnHueToRgbStaysBetweenEndsSpec.post enc Try.prog Try.f3 false true false false) := by
  refine returnsInHanded_of_change (C := Try.checked) own started (by kernel_rfl) Try.func3
    (ChangeSpec.witness6 (enc := enc) (C := Try.checked) false ⟨#[], #[.int .i64 0, .int .i64 0, .float .f64 0], []⟩ 8 (by kernel_rfl) (by kernel_rfl) (by kernel_rfl) (by kernel_rfl)) ?_
  intro W base args ds gs before hval0 hW hcnd _
  have hval : ∀ (j : Nat) t v, Try.f3.params[j]? = some t → args[j]? = some v → Value.okWide Try.prog W .any base t v := hval0
  have hW' := hW
  obtain ⟨p, q, hA0, hV, rfl, hfz, hnd⟩ := hW
  have hA : DataW.TrodAll enc Try.prog W 0 (fun _ => true) true Try.f3.params.toList args.toList ds p := hA0
  rw [Try.params3] at hA hval
  obtain ⟨v0, vs0, d0, ds0, p0, q0, hargs, rfl, rfl, h0, r0⟩ := trodAll_cons hA
  obtain ⟨v1, vs1, d1, ds1, p1, q1, rfl, rfl, rfl, h1, r1⟩ := trodAll_cons r0
  obtain ⟨v2, vs2, d2, ds2, p2, q2, rfl, rfl, rfl, h2, r2⟩ := trodAll_cons r1
  obtain ⟨rfl, rfl, rfl⟩ := trodAll_nil r2
  obtain rfl : args = #[v0, v1, v2] := by cases args; simp_all
  obtain ⟨rfl, rfl⟩ := trodVars_none hV
  obtain ⟨a0, rfl, rfl, rfl, w0⟩ := open_int Try.underlying2 (hval 0 2 v0 rfl rfl) h0
  obtain ⟨a1, rfl, rfl, rfl, w1⟩ := open_int Try.underlying2 (hval 1 2 v1 rfl rfl) h1
  obtain ⟨a2, rfl, rfl, rfl, w2⟩ := open_float Try.underlying22 (hval 2 22 v2 rfl rfl) h2
  clear hA0 hval0
  simp only [List.append_nil] at hW'
  refine (walk a0 a1 a2 w0 w1 w2 W).mono fun e W' ⟨he, bel⟩ => ?_
  subst he
  exact ⟨_, rfl, _, _, _, [], [], [], hW', trodAll_mk1 (shut_bool Try.underlying4 _), (trodAll_cons_mk (shut_int Try.underlying2 w0) (trodAll_cons_mk (shut_int Try.underlying2 w1) (trodAll_cons_mk (shut_float Try.underlying22 w2) trodAll_mk0))), rfl, bel.frame _, fun h => by cases h⟩

theorem over : Rows.fnHueToRgbStaysBetweenEndsRow.holds Try.pinned (OpenSpec.ofChange Rows.fnHueToRgbStaysBetweenEndsSpec) :=
  OpenClaim.holds_of_wide 3 Try.f3 rfl rfl rfl rfl rfl rfl rfl ⟨rfl, rfl, rfl, rfl, rfl⟩ rfl rfl rfl rfl rfl (by kernel_rfl) Try.func3 (by kernel_rfl)
    (of_decide_eq_true (by kernel_rfl)) (by unfold Func.isWrapper; first | (rw [if_pos (by decide +kernel)]; kernel_rfl) | (rw [if_neg (by decide +kernel)]; exact ⟨rfl, rfl⟩))
    (fun os started H enc _ => lifted os started H enc)

theorem proved : Rows.FnHueToRgbStaysBetweenEndsSaid :=
  over
end Go.Proofs.Ytanaamlkiackbaa.fnHueToRgbStaysBetweenEnds
