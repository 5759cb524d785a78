/- symbolForName, at a name that is new and at one that is there. -/
import Derived.Test.YtpjbhbbhkhfiaaaDoorSy1
import Derived.Test.YtpjbhbbhkhfiaaaDoorEN
set_option linter.unusedVariables false
set_option linter.unusedSimpArgs false
namespace Go.Proofs.YtpjbhbbhkhfiaaaDoor
open Go.RowKit
/-- ast.InvalidRef -/
structure Inv (w : World) : Prop where
  c0 : w.cell? ⟨2, 0, none⟩ = some (.int .u32 4294967295)
  c1 : w.cell? ⟨2, 1, none⟩ = some (.int .u32 4294967295)
theorem Inv.kept {w w' : World} {T : Nat → Prop} (h : Inv w) (hk : Kp T w w') (hT : ¬ T 2) : Inv w' := ⟨hk.cell h.c0 hT, hk.cell h.c1 hT⟩
theorem Inv.below {w w' : World} (h : Inv w) (hb : Below w.heap.size w w') : Inv w' := ⟨ac hb h.c0, ac hb h.c1⟩
/-- the parser's own cells -/
structure BC (w : World) (B m1 m2 : Nat) (v1 v2 : Value) (mk : Bool) : Prop where
  c15 : w.cell? ⟨B, 15, none⟩ = some (.int .u32 0)
  c21 : w.cell? ⟨B, 21, none⟩ = some v1
  c23 : w.cell? ⟨B, 23, none⟩ = some v2
  c24 : w.cell? ⟨B, 24, none⟩ = some (.map (some m1))
  c25 : w.cell? ⟨B, 25, none⟩ = some (.map (some m2))
  c54 : w.cell? ⟨B, 54, none⟩ = some (.bool mk)
  f21 : w.frozen? ⟨B, 21, none⟩ = false
  f23 : w.frozen? ⟨B, 23, none⟩ = false
section
variable {w w' : World} {B m1 m2 : Nat} {v1 v2 : Value} {mk : Bool} {T : Nat → Prop}
theorem BC.kept (h : BC w B m1 m2 v1 v2 mk) (hk : Kp T w w') (hT : ¬ T B) : BC w' B m1 m2 v1 v2 mk :=
  ⟨hk.cell h.c15 hT, hk.cell h.c21 hT, hk.cell h.c23 hT, hk.cell h.c24 hT, hk.cell h.c25 hT, hk.cell h.c54 hT, hk.froz h.c21 h.f21 hT, hk.froz h.c23 h.f23 hT⟩
theorem BC.below (h : BC w B m1 m2 v1 v2 mk) (hb : Below w.heap.size w w') : BC w' B m1 m2 v1 v2 mk := h.kept (Kp.of (S := fun _ => False) hb) id
theorem neo {B i j : Nat} (h : i ≠ j) : (⟨B, i, none⟩ : Addr) ≠ ⟨B, j, none⟩ := fun e => h (by injection e)
theorem BC.set21 (h : BC w B m1 m2 v1 v2 mk) (u : Value) : BC (w.setCell ⟨B, 21, none⟩ u) B m1 m2 u v2 mk :=
  ⟨by rw [co (neo (by omega))]; exact h.c15, cs h.c21, by rw [co (neo (by omega))]; exact h.c23, by rw [co (neo (by omega))]; exact h.c24, by rw [co (neo (by omega))]; exact h.c25, by rw [co (neo (by omega))]; exact h.c54, by rw [fz]; exact h.f21, by rw [fz]; exact h.f23⟩
theorem BC.set23 (h : BC w B m1 m2 v1 v2 mk) (u : Value) : BC (w.setCell ⟨B, 23, none⟩ u) B m1 m2 v1 u mk :=
  ⟨by rw [co (neo (by omega))]; exact h.c15, by rw [co (neo (by omega))]; exact h.c21, cs h.c23, by rw [co (neo (by omega))]; exact h.c24, by rw [co (neo (by omega))]; exact h.c25, by rw [co (neo (by omega))]; exact h.c54, by rw [fz]; exact h.f21, by rw [fz]; exact h.f23⟩
end
/-- a place with its number lies at T -/
structure LC (w : World) (T : Nat) (i : Int) : Prop where
  c0 : w.cell? ⟨T, 0, none⟩ = some (.int .i32 0)
  c1 : w.cell? ⟨T, 1, none⟩ = some (.int .u32 0)
  c2 : w.cell? ⟨T, 2, none⟩ = some (.int .u32 i)
  f0 : w.frozen? ⟨T, 0, none⟩ = false
  f1 : w.frozen? ⟨T, 1, none⟩ = false
  f2 : w.frozen? ⟨T, 2, none⟩ = false
theorem LC.kept {w w' : World} {T : Nat} {i : Int} {U : Nat → Prop} (h : LC w T i) (hk : Kp U w w') (hT : ¬ U T) : LC w' T i :=
  ⟨hk.cell h.c0 hT, hk.cell h.c1 hT, hk.cell h.c2 hT, hk.froz h.c0 h.f0 hT, hk.froz h.c1 h.f1 hT, hk.froz h.c2 h.f2 hT⟩
theorem LC.below {w w' : World} {T : Nat} {i : Int} (h : LC w T i) (hb : Below w.heap.size w w') : LC w' T i := h.kept (Kp.of (S := fun _ => False) hb) id
theorem LC.new (w : World) (i : Int) : LC (w.alloc (.cells #[.int .i32 0, .int .u32 0, .int .u32 i] 103)) w.heap.size i :=
  ⟨by simp [go_sem], by simp [go_sem], by simp [go_sem], by simp [go_sem], by simp [go_sem], by simp [go_sem]⟩
theorem LC.set {w : World} {T : Nat} {i : Int} (h : LC w T i) (j : Int) : LC (((w.setCell ⟨T, 0, none⟩ (.int .i32 0)).setCell ⟨T, 1, none⟩ (.int .u32 0)).setCell ⟨T, 2, none⟩ (.int .u32 j)) T j :=
  ⟨by rw [co (neo (by omega)), co (neo (by omega))]; exact cs h.c0, by rw [co (neo (by omega))]; exact cs (by rw [co (neo (by omega))]; exact h.c1), cs (by rw [co (neo (by omega)), co (neo (by omega))]; exact h.c2), by rw [fz, fz, fz]; exact h.f0, by rw [fz, fz, fz]; exact h.f1, by rw [fz, fz, fz]; exact h.f2⟩
theorem kp3 (w : World) (T : Nat) (a b c : Value) : Kp (fun b => b = T) w (((w.setCell ⟨T, 0, none⟩ a).setCell ⟨T, 1, none⟩ b).setCell ⟨T, 2, none⟩ c) := by
  have h1 : Kp (fun b => b = T) w (w.setCell ⟨T, 0, none⟩ a) := (Kp.refl w).set ⟨T, 0, none⟩ a (.inl rfl)
  have h2 : Kp (fun b => b = T) w ((w.setCell ⟨T, 0, none⟩ a).setCell ⟨T, 1, none⟩ b) := h1.set ⟨T, 1, none⟩ b (.inl rfl)
  exact h2.set ⟨T, 2, none⟩ c (.inl rfl)
theorem flat_set {T : Type} (f : T → List Value) (z : Nat) (hz : ∀ x, (f x).length = z) : ∀ (l : List T) (i j : Nat) (r r' : T) (u : Value), l[i]? = some r → j < z → f r' = (f r).set j u → (flat f l).set (i * z + j) u = flat f (l.set i r') := by
  intro l
  induction l with
  | nil => intro i j r r' u h; simp at h
  | cons y l ih =>
    intro i j r r' u h hj he
    cases i with
    | zero =>
      simp at h; subst h
      simp only [flat, List.flatMap_cons, Nat.zero_mul, Nat.zero_add, List.set_cons_zero]
      rw [List.set_append_left _ _ (by rw [hz]; exact hj), he]
    | succ i =>
      simp at h
      have := ih i j r r' u h hj he
      simp only [flat, List.flatMap_cons, List.set_cons_succ] at *
      rw [List.set_append_right _ _ (by rw [hz, Nat.succ_mul]; omega), hz, ← this]
      congr 2
      rw [Nat.succ_mul]; omega
theorem LC.lt {w : World} {T : Nat} {i : Int} (h : LC w T i) : T < w.heap.size := block_lt_of_cell h.c0
theorem PR.bc {w : World} {S : Nat → Prop} {G B m1 m2 : Nat} {v1 v2 : Value} {mk : Bool} {l : List SyR} {D : DataW Unit} (h : PR w S G B m1 m2 v1 v2 mk l D) : BC w B m1 m2 v1 v2 mk := ⟨h.c15, h.c21, h.c23, h.c24, h.c25, h.c54, h.f21, h.f23⟩
def SymB (w : World) (S : Nat → Prop) (G B : Nat) (mk : Bool) (i : Nat) (l' : List SyR) (e : Ending) (w' : World) : Prop :=
  e = .returned (locV i) ∧ Kp S w w' ∧ ∃ S' : Nat → Prop, PS w' S' G B mk l' ∧ ∀ k, S' k → S k ∨ w.heap.size ≤ k
theorem own_map_kept {w w' : World} {T : Nat → Prop} {b n : Nat} {D : DataW Unit} (h : w.ownsMap Tryd.prog 9 locElem b n D) (hk : Kp T w w') (hT : ¬ T b) : w'.ownsMap Tryd.prog 9 locElem b n D := by
  obtain ⟨es, clock, hb, rest⟩ := h
  refine ⟨es, clock, ?_, rest⟩
  rw [hk.block _ (Array.getElem?_eq_some_iff.1 hb).1 hT]
  exact hb
abbrev z116 : Array Value := #[.pointer none, .string ⟨#[]⟩, .int .u32 0, .int .u32 0, .int .u32 0, .int .u32 0, .int .u32 0, .int .u16 0, .int .u8 0, .int .u8 0]
theorem info116 : (Tryd.prog.info? 99).map (fun i => (i.zero.map (·.cells), i.size, i.bytes)) = some (some z116, 10, 48) := by kernel_rfl
theorem symC_one (k : Int) (r : SyR) : (symC k r).toArray.all (·.oneCell') = true := by rw [Array.all_eq_true']; intro u hu; simp at hu; rcases hu with rfl | rfl | rfl | rfl | rfl | rfl | rfl | rfl <;> rfl
theorem locC_one (i : Nat) : (locC i).toArray.all (·.oneCell') = true := by rw [Array.all_eq_true']; intro u hu; simp at hu; rcases hu with rfl | rfl | rfl <;> rfl
theorem info106 : (Tryd.prog.info? 103).map (fun i => (i.zero.map (·.cells), i.size, i.bytes)) = some (some #[.int .i32 0, .int .u32 0, .int .u32 0], 3, 12) := by kernel_rfl
theorem u32_small (n : Nat) (h : n ≤ 1048576) : IntKind.u32.wrap (n : Int) = (n : Int) := by
  simp [IntKind.wrap, IntKind.bits, IntKind.signed]
  omega
set_option maxRecDepth 100000 in
set_option maxHeartbeats 2000000 in
theorem sym25_new_true (nm : ByteArray) (hn : nm.size ≤ maxLen) (w : World) (S : Nat → Prop) (G B m1 m2 : Nat) (v1 v2 : Value) (l : List SyR) (D : DataW Unit) (hl : l.length < 1048576) (hno : ∀ r ∈ l, r.name ≠ nm) (h : PR w S G B m1 m2 v1 v2 true l D) (hI : Inv w) (hG : 3 ≤ G) :
    Calls Tryd.prog 30 #[.pointer (some ⟨B, 0, none⟩), .agg #[.int .i32 0], .string nm] w (SymB w S G B true l.length (l ++ [⟨nm, 1⟩])) := by
  have hD1 := h.dv1; have hD2 := h.dv2; have hDD := h.dvv; have hS1 := h.sv1; have hS2 := h.sv2
  obtain ⟨a1, n1, rfl, -, -⟩ := own_shape h.o1
  obtain ⟨a2, n2, e2, -, -⟩ := own_shape h.o2
  simp only [if_true] at e2
  subst e2
  have o1 := Lib.hid h.o1; have o2 := Lib.hid h.o2; have om := Lib.hid h.om; have bc := Lib.hid h.bc; have nmz := Lib.hid h.nm
  simp only [if_true] at o2 om
  have hS := Lib.hid (And.intro h.sB (And.intro h.s1 h.s2))
  have hlS := Lib.hid h.lS; have hgS := Lib.hid h.gS
  have hdd := Lib.hid (And.intro h.d1 (And.intro h.d2 h.d3))
  have hD1 := Lib.hid h.dv1; have hD2 := Lib.hid h.dv2; have hDD := Lib.hid h.dvv; have hS1 := Lib.hid h.sv1; have hS2 := Lib.hid h.sv2
  have hBw := h.lS _ h.sB
  clear h
  have hI' := Lib.hid hI
  replace hno := Lib.hid hno
  clear hI
  go_enter Tryd.func30, Tryd.ntmps30
  go_upto_region 1 with fail
  refine wp_gen (fun W0 hW => ?_)
  have hb0 : Below w.heap.size w W0 := by rw [hW]; exact (ba _ _).alloc (by simp) _
  have t4 : Hid (W0.cell? ⟨w.heap.size, 0, none⟩ = some (.int .i32 0)) := Lib.hid (by rw [hW]; exact al (by simp [go_sem]) _)
  have t6 : Hid (LC W0 (w.heap.size + 1) 0) := Lib.hid (by
    rw [hW]
    have := LC.new (w.alloc (.cells #[.int .i32 0] 32)) 0
    simpa using this)
  have z0 : W0.heap.size = w.heap.size + 1 + 1 := by rw [hW]; simp
  clear hW
  have hK : Hid (Kp S w W0) := Lib.hid ((Kp.of hb0).wide (fun _ q => q))
  replace o1 := Lib.hid ((Kp.of (S := fun _ => False) hb0).own o1.out (fun _ _ q => q)); replace o2 := Lib.hid ((Kp.of (S := fun _ => False) hb0).own o2.out (fun _ _ q => q)); replace om := Lib.hid (own_map_kept om.out (Kp.of (S := fun _ => False) hb0) id); replace bc := Lib.hid (bc.out.below hb0); replace hI' := Lib.hid (hI'.out.below hb0)
  clear hb0
  have hhas := nmz.out.off nm hno.out
  obtain ⟨v, ps, hrun, hv⟩ := om.out.look_ok lawS Tryd.underlying49 (z := locV 0) (by kernel_rfl) (locElem_mk 0) (slit_key hn)
  rw [Maps.atKey_of_not_has hhas] at hv
  obtain rfl := locElem_inv hv
  rw [hhas] at hrun
  clear hv hhas
  have x54 := bc.out.c54; have x24 := bc.out.c24
  go_upto_region 9 with fail
  refine wp_gen (fun W1 hW => ?_)
  have hb1 : Below W0.heap.size W0 W1 := by rw [hW]; exact ba _ _
  have t9 : Hid (LC W1 W0.heap.size 0) := Lib.hid (by rw [hW]; exact LC.new W0 0)
  rw [z0] at t9
  have z1 : W1.heap.size = W0.heap.size + 1 := by rw [hW]; simp
  clear hW x54 x24 hrun
  replace hK := Lib.hid (hK.out.trans ((Kp.of hb1).wide (fun _ q => q)))
  replace o1 := Lib.hid ((Kp.of (S := fun _ => False) hb1).own o1.out (fun _ _ q => q)); replace o2 := Lib.hid ((Kp.of (S := fun _ => False) hb1).own o2.out (fun _ _ q => q)); replace om := Lib.hid (own_map_kept om.out (Kp.of (S := fun _ => False) hb1) id); replace bc := Lib.hid (bc.out.below hb1); replace hI' := Lib.hid (hI'.out.below hb1); replace t4 := Lib.hid (ac hb1 t4.out); replace t6 := Lib.hid (t6.out.below hb1)
  clear hb1
  have wl := u32_small l.length (by omega)
  have xx := t9.out.c0
  clear xx
  go_upto_region 10 with fail
  have y4 := fun d os => cell_regrown t4.out d os
  have y15 := fun d os => cell_regrown bc.out.c15 d os
  have y21 := fun d os => cell_regrown bc.out.c21 d os
  refine drawn_tail 14 (by kernel_rfl) (by kernel_rfl) (by kernel_rfl) (fun Q hQ => ?_)
  simp only [List.take_succ_cons, List.take_zero, List.drop_succ_cons, List.drop_zero]
  repeat (quiet_step (fail))
  refine wpQuiet_nil ?_
  clear y4 y15 y21
  intro W2 hw
  have hb1 : Below W1.heap.size W1 W2 := by
    obtain ⟨⟨d, os⟩, rfl⟩ := hw
    exact below_regrown _ d os
  clear hw
  have z2 := hb1.size
  replace hK := Lib.hid (hK.out.trans ((Kp.of hb1).wide (fun _ q => q)))
  replace o1 := Lib.hid ((Kp.of (S := fun _ => False) hb1).own o1.out (fun _ _ q => q)); replace o2 := Lib.hid ((Kp.of (S := fun _ => False) hb1).own o2.out (fun _ _ q => q)); replace om := Lib.hid (own_map_kept om.out (Kp.of (S := fun _ => False) hb1) id); replace bc := Lib.hid (bc.out.below hb1); replace hI' := Lib.hid (hI'.out.below hb1); replace t6 := Lib.hid (t6.out.below hb1); replace t9 := Lib.hid (t9.out.below hb1)
  clear hb1 t4
  have x0 := t9.out.c0; have x1 := t9.out.c1; have x2 := t9.out.c2; have w0 := t9.out.f0; have w1 := t9.out.f1; have w2 := t9.out.f2
  go_upto_region 11 with fail
  refine wp_gen (fun W3 hW => ?_)
  have hk3 : Kp (fun b => b = w.heap.size + 1 + 1) W2 W3 := by rw [hW]; exact kp3 W2 _ _ _ _
  replace t9 : Hid (LC W3 (w.heap.size + 1 + 1) l.length) := Lib.hid (by rw [hW]; exact t9.out.set _)
  clear hW x0 x1 x2 w0 w1 w2
  have nS2 : Hid (∀ k, S k → ¬ k = w.heap.size + 1 + 1) := Lib.hid (fun k hk e => by have := hlS.out k hk; omega)
  have hz0 := hK.out.size
  replace hK := Lib.hid (hK.out.trans' hk3 (fun b e q => by omega))
  replace o1 := Lib.hid (hk3.own o1.out (fun k e => nS2.out k (hS1.out k e))); replace o2 := Lib.hid (hk3.own o2.out (fun k e => nS2.out k (hS2.out k e))); replace om := Lib.hid (own_map_kept om.out hk3 (nS2.out _ hS.out.2.1)); replace bc := Lib.hid (bc.out.kept hk3 (nS2.out _ hS.out.1)); replace hI' := Lib.hid (hI'.out.kept hk3 (by have := hgS.out _ hS.out.1; omega)); replace t6 := Lib.hid (t6.out.kept hk3 (by omega))
  have z3 := hk3.size
  clear hk3
  refine drawn_new_tail 9 0 (fun j => ([.pointer (some ⟨B, 0, none⟩), .pointer (some ⟨B, 0, none⟩), .pointer (some ⟨B, 0, none⟩), .pointer (some ⟨B, 21, none⟩), .slice a1 l.length n1, .int .u8 26, .string nm, .agg #[.int .u32 4294967295, .int .u32 4294967295], .agg (symC 26 ⟨nm, 0⟩).toArray] : List Value).getD j undef) (symC 26 ⟨nm, 0⟩).toArray 99 (by kernel_rfl) (by kernel_rfl) (by kernel_rfl) ?_ ?_
  · refine ⟨?_, ?_⟩
    · intro vs W hC hd
      clear hd
      have HC := Lib.hid (Below.refl W.heap.size W)
      clear hC
      simp only [List.take_succ_cons, List.take_zero, QTail.putA, Nat.reduceAdd, Nat.reduceEqDiff, if_false, reduceIte, Act.put, List.setIfInBounds_toArray, List.set_cons_succ, List.set_cons_zero]
      go_wp2
      exact HC.out
    refine ⟨?_, ?_⟩
    · intro vs W hC hd
      clear hd
      have HC := Lib.hid (Below.refl W.heap.size W)
      clear hC
      simp only [List.take_succ_cons, List.take_zero, QTail.putA, Nat.reduceAdd, Nat.reduceEqDiff, if_false, reduceIte, Act.put, List.setIfInBounds_toArray, List.set_cons_succ, List.set_cons_zero]
      go_wp2
      exact HC.out
    refine ⟨?_, ?_⟩
    · intro vs W hC hd
      have d1 : vs 1 = .pointer (some ⟨B, 0, none⟩) := hd { on := 1, ground := Ground.data } (by simp) rfl (by decide)
      clear hd
      have HC := Lib.hid (Below.refl W.heap.size W)
      clear hC
      simp only [List.take_succ_cons, List.take_zero, QTail.putA, Nat.reduceAdd, Nat.reduceEqDiff, if_false, reduceIte, Act.put, List.setIfInBounds_toArray, List.set_cons_succ, List.set_cons_zero]
      go_wp2
      exact HC.out
    refine ⟨?_, ?_⟩
    · intro vs W hC hd
      have d2 : vs 2 = .pointer (some ⟨B, 0, none⟩) := hd { on := 2, ground := Ground.data } (by simp) rfl (by decide)
      clear hd
      have HC := Lib.hid (Below.refl W.heap.size W)
      clear hC
      simp only [List.take_succ_cons, List.take_zero, QTail.putA, Nat.reduceAdd, Nat.reduceEqDiff, if_false, reduceIte, Act.put, List.setIfInBounds_toArray, List.set_cons_succ, List.set_cons_zero]
      go_wp2
      exact HC.out
    refine ⟨?_, ?_⟩
    · intro vs W hC hd
      have d3 : vs 3 = .pointer (some ⟨B, 21, none⟩) := hd { on := 3, ground := Ground.data } (by simp) rfl (by decide)
      clear hd
      have c21 := ac hC bc.out.c21
      have HC := Lib.hid (Below.refl W.heap.size W)
      clear hC
      simp only [List.take_succ_cons, List.take_zero, QTail.putA, Nat.reduceAdd, Nat.reduceEqDiff, if_false, reduceIte, Act.put, List.setIfInBounds_toArray, List.set_cons_succ, List.set_cons_zero]
      go_wp2
      exact HC.out
    refine ⟨?_, ?_⟩
    · intro vs W hC hd
      clear hd
      have HC := Lib.hid (Below.refl W.heap.size W)
      clear hC
      simp only [List.take_succ_cons, List.take_zero, QTail.putA, Nat.reduceAdd, Nat.reduceEqDiff, if_false, reduceIte, Act.put, List.setIfInBounds_toArray, List.set_cons_succ, List.set_cons_zero]
      go_wp2
      exact HC.out
    refine ⟨?_, ?_⟩
    · intro vs W hC hd
      clear hd
      have HC := Lib.hid (Below.refl W.heap.size W)
      clear hC
      simp only [List.take_succ_cons, List.take_zero, QTail.putA, Nat.reduceAdd, Nat.reduceEqDiff, if_false, reduceIte, Act.put, List.setIfInBounds_toArray, List.set_cons_succ, List.set_cons_zero]
      go_wp2
      exact HC.out
    refine ⟨?_, ?_⟩
    · intro vs W hC hd
      clear hd
      have i0 := ac hC hI'.out.c0; have i1 := ac hC hI'.out.c1
      have HC := Lib.hid (Below.refl W.heap.size W)
      clear hC
      simp only [List.take_succ_cons, List.take_zero, QTail.putA, Nat.reduceAdd, Nat.reduceEqDiff, if_false, reduceIte, Act.put, List.setIfInBounds_toArray, List.set_cons_succ, List.set_cons_zero]
      go_wp2
      exact HC.out
    refine ⟨?_, ?_⟩
    · intro vs W hC hd
      have d5 : vs 5 = .int .u8 26 := hd { on := 5, ground := Ground.data } (by simp) rfl (by decide)
      have d6 : vs 6 = .string nm := hd { on := 6, ground := Ground.data } (by simp) rfl (by decide)
      have d7 : vs 7 = .agg #[.int .u32 4294967295, .int .u32 4294967295] := hd { on := 7, ground := Ground.data } (by simp) rfl (by decide)
      clear hd
      have HC := Lib.hid (Below.refl W.heap.size W)
      clear hC
      simp only [List.take_succ_cons, List.take_zero, QTail.putA, Nat.reduceAdd, Nat.reduceEqDiff, if_false, reduceIte, Act.put, List.setIfInBounds_toArray, List.set_cons_succ, List.set_cons_zero]
      go_wp2
      exact HC.out
    refine ⟨?_, ?_⟩
    · intro vs W hC hd
      have d8 : vs 8 = .agg (symC 26 ⟨nm, 0⟩).toArray := hd { on := 8, ground := Ground.data } (by simp) rfl (by decide)
      clear hd
      have HC := Lib.hid (Below.refl W.heap.size W)
      clear hC
      simp only [List.take_succ_cons, List.take_zero, QTail.putA, Nat.reduceAdd, Nat.reduceEqDiff, if_false, reduceIte, Act.put, List.setIfInBounds_toArray, List.set_cons_succ, List.set_cons_zero]
      go_wp2
    trivial
  intro Q hQ b9 W4 hb1 hlo hhi hnew
  simp only [List.take_succ_cons, List.take_zero, List.drop_succ_cons, List.drop_zero, QTail.putA, Nat.reduceAdd, Nat.reduceEqDiff, if_false, reduceIte, Act.put, List.setIfInBounds_toArray, List.set_cons_succ, List.set_cons_zero]
  replace hK := Lib.hid (hK.out.trans ((Kp.of hb1).wide (fun _ q => q)))
  replace o1 := Lib.hid ((Kp.of (S := fun _ => False) hb1).own o1.out (fun _ _ q => q)); replace o2 := Lib.hid ((Kp.of (S := fun _ => False) hb1).own o2.out (fun _ _ q => q)); replace om := Lib.hid (own_map_kept om.out (Kp.of (S := fun _ => False) hb1) id); replace bc := Lib.hid (bc.out.below hb1); replace hI' := Lib.hid (hI'.out.below hb1); replace t6 := Lib.hid (t6.out.below hb1); replace t9 := Lib.hid (t9.out.below hb1)
  have z4 := hb1.size
  clear hb1 hlo hhi
  have hGw : G ≤ W4.heap.size := by have := hgS.out _ hS.out.1; omega
  have x21 := bc.out.c21
  go_upto_region 12 with (at_builtin; go_loud (refine app1g (.tmp 49) (.tmp 54) 72 99 G 10 48 z116 (symC 26 ⟨nm, 0⟩).toArray b9 _ l.length _ rfl rfl rfl rfl hnew Tryd.underlying72 info116 rfl (by omega) o1.out rfl (symC_one 26 ⟨nm, 0⟩) (by omega) (by omega) hGw ?_); intro v3 W5 h3 hkp hnw; obtain ⟨g3, n3, rfl, -, -, -, -⟩ := own_some h3 (by omega); replace hkp := Lib.hid hkp; replace h3 := Lib.hid h3; replace hnw := Lib.hid hnw; have x21b := hkp.out.cell bc.out.c21 (fun e => (hD1.out _ e).1 rfl); have f21b := hkp.out.froz bc.out.c21 bc.out.f21 (fun e => (hD1.out _ e).1 rfl))
  refine wp_gen (fun W6 hW => ?_)
  have hGB := hgS.out _ hS.out.1
  have z5 := hkp.out.size
  have nT : Hid (∀ k, (Value.slice a1 l.length n1).ownBlock = some k → k < w.heap.size) := Lib.hid (fun k e => hlS.out _ (hS1.out k e))
  -- the row's new block
  have e3 : Hid ((Value.slice a1 l.length n1).ownBlock = some g3 ∨ W4.heap.size ≤ g3) := Lib.hid (hnw.out g3 rfl)
  have e3B : Hid (g3 ≠ B ∧ g3 ≠ m1 ∧ g3 ≠ m2 ∧ g3 ≠ w.heap.size + 1 ∧ g3 ≠ w.heap.size + 1 + 1 ∧ (Value.slice a2 l.length n2).ownBlock ≠ some g3) := Lib.hid (by
    have q1 := hlS.out _ hS.out.2.1; have q2 := hlS.out _ hS.out.2.2
    rcases e3.out with e | e
    · have q3 := hD1.out _ e
      have q4 := nT.out _ e
      exact ⟨q3.1, q3.2.1, q3.2.2, by omega, by omega, hDD.out _ e⟩
    · exact ⟨by omega, by omega, by omega, by omega, by omega, fun h => by have := hlS.out _ (hS2.out _ h); omega⟩)
  clear hnw
  have hk6 : Kp (fun b => (Value.slice a1 l.length n1).ownBlock = some b ∨ b = B) W4 W6 := by rw [hW]; exact (hkp.out.wide (fun b q => .inl q)).set _ _ (.inl (.inr rfl))
  have bc6 : Hid (BC W6 B m1 m2 (.slice (some ⟨g3, 0, none⟩) (l.length + 1) n3) (.slice a2 l.length n2) true) := Lib.hid (by rw [hW]; exact (bc.out.kept hkp.out (fun e => (hD1.out _ e).1 rfl)).set21 _)
  have hks : Kp (fun b => b = B) W5 W6 := by rw [hW]; exact (Kp.refl W5).set ⟨B, 21, none⟩ _ (.inl rfl)
  have o16 : Hid (W6.ownsRow G 99 10 (.slice (some ⟨g3, 0, none⟩) (l.length + 1) n3) (l.length + 1) (flat (symC (kd true)) (l ++ [⟨nm, 0⟩]))) := Lib.hid (by
    have := hks.own h3.out (fun k e q => by subst q; injection e with e; exact e3B.out.1 e)
    rw [← flat_add]
    exact this)
  clear hW hks h3 x21 x21b f21b bc o1 hkp
  have n1B : Hid (∀ b, ((Value.slice a1 l.length n1).ownBlock = some b ∨ b = B) → S b) := Lib.hid (fun b q => by rcases q with q | rfl; exact hS1.out _ q; exact hS.out.1)
  replace hK := Lib.hid (hK.out.trans (hk6.wide n1B.out))
  replace o2 := Lib.hid (hk6.own o2.out (fun k e q => by rcases q with q | rfl; exact hDD.out _ q e; exact (hD2.out _ e).1 rfl))
  replace om := Lib.hid (own_map_kept om.out hk6 (fun q => by rcases q with q | q; exact (fun q => q.2.1 rfl) (hD1.out _ q); exact hdd.out.1.symm q))
  replace t6 := Lib.hid (t6.out.kept hk6 (fun q => by have := hlS.out _ (n1B.out _ q); omega)); replace t9 := Lib.hid (t9.out.kept hk6 (fun q => by have := hlS.out _ (n1B.out _ q); omega))
  have z6 := hk6.size
  clear hk6
  have x0 := t9.out.c0; have x1 := t9.out.c1; have x2 := t9.out.c2
  go_upto_region 13 with (at_mapUpdate; go_loud (refine wpList_mapUpdate_own _ rfl _ _ _ 49 rfl 9 103 lawS Tryd.underlying49 _ m1 l.length D rfl om.out (by unfold maxLen; omega) _ _ _ rfl rfl (slit_key hn) _ [] (locElem_mk l.length) ?_); intro W7 om7 hg7; replace om7 := Lib.hid om7; replace hg7 := Lib.hid (Kp.grown hg7))
  simp only [Act.put]
  have nM : Hid (∀ k, (some m1 = some k) → k = m1) := Lib.hid (fun k e => (Option.some.inj e).symm)
  have lm := hlS.out _ hS.out.2.1
  have bc7 : Hid (BC W7 B m1 m2 (.slice (some ⟨g3, 0, none⟩) (l.length + 1) n3) (.slice a2 l.length n2) true) := Lib.hid (bc6.out.kept hg7.out (fun q => hdd.out.1.symm (nM.out _ q).symm))
  have o17 : Hid (W7.ownsRow G 99 10 (.slice (some ⟨g3, 0, none⟩) (l.length + 1) n3) (l.length + 1) (flat (symC (kd true)) (l ++ [⟨nm, 0⟩]))) := Lib.hid (hg7.out.own o16.out (fun k e q => by injection e with e; subst e; have := nM.out _ q; exact e3B.out.2.1 this))
  replace o2 := Lib.hid (hg7.out.own o2.out (fun k e q => by have := nM.out _ q; exact (hD2.out _ e).2.1 this))
  replace t6 := Lib.hid (t6.out.kept hg7.out (fun q => by have := nM.out _ q; omega)); replace t9 := Lib.hid (t9.out.kept hg7.out (fun q => by have := nM.out _ q; omega))
  replace hK := Lib.hid (hK.out.trans (hg7.out.wide (fun b q => by rw [nM.out _ q]; exact hS.out.2.1)))
  have z7 := hg7.out.size
  clear hg7 bc6 o16 om x0 x1 x2
  go_upto_region 14 with fail
  refine drawn_new_tail 6 0 (fun j => ([.pointer (some ⟨B, 0, none⟩), .pointer (some ⟨B, 0, none⟩), .pointer (some ⟨B, 0, none⟩), .pointer (some ⟨B, 23, none⟩), .slice a2 l.length n2, .agg (locC l.length).toArray] : List Value).getD j undef) (locC l.length).toArray 103 (by kernel_rfl) (by kernel_rfl) (by kernel_rfl) ?_ ?_
  · refine ⟨?_, ?_⟩
    · intro vs W hC hd
      clear hd
      have HC := Lib.hid (Below.refl W.heap.size W)
      clear hC
      simp only [List.take_succ_cons, List.take_zero, QTail.putA, Nat.reduceAdd, Nat.reduceEqDiff, if_false, reduceIte, Act.put, List.setIfInBounds_toArray, List.set_cons_succ, List.set_cons_zero]
      go_wp2
      exact HC.out
    refine ⟨?_, ?_⟩
    · intro vs W hC hd
      clear hd
      have HC := Lib.hid (Below.refl W.heap.size W)
      clear hC
      simp only [List.take_succ_cons, List.take_zero, QTail.putA, Nat.reduceAdd, Nat.reduceEqDiff, if_false, reduceIte, Act.put, List.setIfInBounds_toArray, List.set_cons_succ, List.set_cons_zero]
      go_wp2
      exact HC.out
    refine ⟨?_, ?_⟩
    · intro vs W hC hd
      have d1 : vs 1 = .pointer (some ⟨B, 0, none⟩) := hd { on := 1, ground := Ground.data } (by simp) rfl (by decide)
      clear hd
      have HC := Lib.hid (Below.refl W.heap.size W)
      clear hC
      simp only [List.take_succ_cons, List.take_zero, QTail.putA, Nat.reduceAdd, Nat.reduceEqDiff, if_false, reduceIte, Act.put, List.setIfInBounds_toArray, List.set_cons_succ, List.set_cons_zero]
      go_wp2
      exact HC.out
    refine ⟨?_, ?_⟩
    · intro vs W hC hd
      have d2 : vs 2 = .pointer (some ⟨B, 0, none⟩) := hd { on := 2, ground := Ground.data } (by simp) rfl (by decide)
      clear hd
      have HC := Lib.hid (Below.refl W.heap.size W)
      clear hC
      simp only [List.take_succ_cons, List.take_zero, QTail.putA, Nat.reduceAdd, Nat.reduceEqDiff, if_false, reduceIte, Act.put, List.setIfInBounds_toArray, List.set_cons_succ, List.set_cons_zero]
      go_wp2
      exact HC.out
    refine ⟨?_, ?_⟩
    · intro vs W hC hd
      have d3 : vs 3 = .pointer (some ⟨B, 23, none⟩) := hd { on := 3, ground := Ground.data } (by simp) rfl (by decide)
      clear hd
      have c23 := ac hC bc7.out.c23
      have HC := Lib.hid (Below.refl W.heap.size W)
      clear hC
      simp only [List.take_succ_cons, List.take_zero, QTail.putA, Nat.reduceAdd, Nat.reduceEqDiff, if_false, reduceIte, Act.put, List.setIfInBounds_toArray, List.set_cons_succ, List.set_cons_zero]
      go_wp2
      exact HC.out
    refine ⟨?_, ?_⟩
    · intro vs W hC hd
      clear hd
      have y0 := ac hC t9.out.c0; have y1 := ac hC t9.out.c1; have y2 := ac hC t9.out.c2
      have HC := Lib.hid (Below.refl W.heap.size W)
      clear hC
      simp only [List.take_succ_cons, List.take_zero, QTail.putA, Nat.reduceAdd, Nat.reduceEqDiff, if_false, reduceIte, Act.put, List.setIfInBounds_toArray, List.set_cons_succ, List.set_cons_zero]
      go_wp2
      exact HC.out
    refine ⟨?_, ?_⟩
    · intro vs W hC hd
      have d5 : vs 5 = .agg (locC l.length).toArray := hd { on := 5, ground := Ground.data } (by simp) rfl (by decide)
      clear hd
      have HC := Lib.hid (Below.refl W.heap.size W)
      clear hC
      simp only [List.take_succ_cons, List.take_zero, QTail.putA, Nat.reduceAdd, Nat.reduceEqDiff, if_false, reduceIte, Act.put, List.setIfInBounds_toArray, List.set_cons_succ, List.set_cons_zero]
      go_wp2
    trivial
  intro Q hQ b14 W8 hb1 hlo hhi hnew14
  simp only [List.take_succ_cons, List.take_zero, List.drop_succ_cons, List.drop_zero, QTail.putA, Nat.reduceAdd, Nat.reduceEqDiff, if_false, reduceIte, Act.put, List.setIfInBounds_toArray, List.set_cons_succ, List.set_cons_zero]
  replace hK := Lib.hid (hK.out.trans ((Kp.of hb1).wide (fun _ q => q)))
  replace o17 := Lib.hid ((Kp.of (S := fun _ => False) hb1).own o17.out (fun _ _ q => q)); replace o2 := Lib.hid ((Kp.of (S := fun _ => False) hb1).own o2.out (fun _ _ q => q)); replace om7 := Lib.hid (own_map_kept om7.out (Kp.of (S := fun _ => False) hb1) id); replace bc7 := Lib.hid (bc7.out.below hb1); replace t6 := Lib.hid (t6.out.below hb1); replace t9 := Lib.hid (t9.out.below hb1)
  have z8 := hb1.size
  have g3lt : g3 < W8.heap.size := by have := o17.out.lt g3 rfl; omega
  clear hb1 hlo hhi
  have hGw8 : G ≤ W8.heap.size := by omega
  have x23 := bc7.out.c23
  go_upto_region 15 with (at_builtin; go_loud (refine app1g (.tmp 67) (.tmp 69) 74 103 G 3 12 #[.int .i32 0, .int .u32 0, .int .u32 0] (locC l.length).toArray b14 _ l.length _ rfl rfl rfl rfl hnew14 Tryd.underlying74 info106 rfl (by omega) o2.out rfl (locC_one l.length) (by omega) (by omega) hGw8 ?_); intro v4 W9 h4 hkp hnw; obtain ⟨g4, n4, rfl, -, -, -, -⟩ := own_some h4 (by omega); replace hkp := Lib.hid hkp; replace h4 := Lib.hid h4; replace hnw := Lib.hid hnw; have x23b := hkp.out.cell bc7.out.c23 (fun e => (hD2.out _ e).1 rfl); have f23b := hkp.out.froz bc7.out.c23 bc7.out.f23 (fun e => (hD2.out _ e).1 rfl))
  refine wp_gen (fun W10 hW => ?_)
  have nT2 : Hid (∀ k, (Value.slice a2 l.length n2).ownBlock = some k → k < w.heap.size) := Lib.hid (fun k e => hlS.out _ (hS2.out k e))
  have e4 : Hid ((Value.slice a2 l.length n2).ownBlock = some g4 ∨ W8.heap.size ≤ g4) := Lib.hid (hnw.out g4 rfl)
  have e4B : Hid (g4 ≠ B ∧ g4 ≠ m1 ∧ g4 ≠ m2 ∧ g4 ≠ w.heap.size + 1 ∧ g4 ≠ w.heap.size + 1 + 1 ∧ g4 ≠ g3) := Lib.hid (by
    have q1 := hlS.out _ hS.out.2.1; have q2 := hlS.out _ hS.out.2.2
    rcases e4.out with e | e
    · have q3 := hD2.out _ e
      have q4 := nT2.out _ e
      exact ⟨q3.1, q3.2.1, q3.2.2, by omega, by omega, fun h => e3B.out.2.2.2.2.2 (h ▸ e)⟩
    · exact ⟨by omega, by omega, by omega, by omega, by omega, by omega⟩)
  clear hnw
  have hk10 : Kp (fun b => (Value.slice a2 l.length n2).ownBlock = some b ∨ b = B) W8 W10 := by rw [hW]; exact (hkp.out.wide (fun b q => .inl q)).set _ _ (.inl (.inr rfl))
  have bc8 : Hid (BC W10 B m1 m2 (.slice (some ⟨g3, 0, none⟩) (l.length + 1) n3) (.slice (some ⟨g4, 0, none⟩) (l.length + 1) n4) true) := Lib.hid (by rw [hW]; exact (bc7.out.kept hkp.out (fun e => (hD2.out _ e).1 rfl)).set23 _)
  have hks : Kp (fun b => b = B) W9 W10 := by rw [hW]; exact (Kp.refl W9).set ⟨B, 23, none⟩ _ (.inl rfl)
  have o28 : Hid (W10.ownsRow G 103 3 (.slice (some ⟨g4, 0, none⟩) (l.length + 1) n4) (l.length + 1) (flat locC (List.range (l.length + 1)))) := Lib.hid (by
    have := hks.own h4.out (fun k e q => by subst q; injection e with e; exact e4B.out.1 e)
    rw [List.range_succ, ← flat_add]
    exact this)
  have z9 := hkp.out.size
  clear hW hks h4 x23 x23b f23b bc7 o2 hkp
  have n2B : Hid (∀ b, ((Value.slice a2 l.length n2).ownBlock = some b ∨ b = B) → S b) := Lib.hid (fun b q => by rcases q with q | rfl; exact hS2.out _ q; exact hS.out.1)
  replace hK := Lib.hid (hK.out.trans (hk10.wide n2B.out))
  have o18 : Hid (W10.ownsRow G 99 10 (.slice (some ⟨g3, 0, none⟩) (l.length + 1) n3) (l.length + 1) (flat (symC (kd true)) (l ++ [⟨nm, 0⟩]))) := Lib.hid (hk10.own o17.out (fun k e q => by injection e with e; subst e; rcases q with q | q; exact e3B.out.2.2.2.2.2 q; exact e3B.out.1 q))
  replace om7 := Lib.hid (own_map_kept om7.out hk10 (fun q => by rcases q with q | q; exact (fun q => q.2.1 rfl) (hD2.out _ q); exact hdd.out.1.symm q))
  replace t6 := Lib.hid (t6.out.kept hk10 (fun q => by have := hlS.out _ (n2B.out _ q); omega)); replace t9 := Lib.hid (t9.out.kept hk10 (fun q => by have := hlS.out _ (n2B.out _ q); omega))
  have z10 := hk10.size
  clear hk10 o17
  have hcell := own_at (symC_len (kd true)) o18.out (i := l.length) (x := ⟨nm, 0⟩) (by simp) (j := 4) rfl
  have hfz := o18.out.frozenAt (l.length * 10 + 4)
  have y21 := fun d os => cell_regrown bc8.out.c21 d os
  have y2 := fun d os => cell_regrown t9.out.c2 d os
  have yc := fun d os => cell_regrown hcell d os
  have j0 : (0 : Int) ≤ (l.length : Int) := by omega
  have j1 : (l.length : Int) < (l.length : Int) + 1 := by omega
  refine drawn_tail 13 (by kernel_rfl) (by kernel_rfl) (by kernel_rfl) (fun Q hQ => ?_)
  simp only [List.take_succ_cons, List.take_zero, List.drop_succ_cons, List.drop_zero]
  repeat (quiet_step (fail))
  refine wpQuiet_nil ?_
  clear y21 y2 yc
  intro W11 hw
  have hb1 : Below W10.heap.size W10 W11 := by
    obtain ⟨⟨d, os⟩, rfl⟩ := hw
    exact below_regrown _ d os
  clear hw
  have q4 := ac hb1 hcell
  have q5 := af hb1 hcell hfz
  clear hcell hfz
  replace hK := Lib.hid (hK.out.trans ((Kp.of hb1).wide (fun _ q => q)))
  replace o18 := Lib.hid ((Kp.of (S := fun _ => False) hb1).own o18.out (fun _ _ q => q)); replace o28 := Lib.hid ((Kp.of (S := fun _ => False) hb1).own o28.out (fun _ _ q => q)); replace om7 := Lib.hid (own_map_kept om7.out (Kp.of (S := fun _ => False) hb1) id); replace bc8 := Lib.hid (bc8.out.below hb1); replace t6 := Lib.hid (t6.out.below hb1); replace t9 := Lib.hid (t9.out.below hb1)
  have z11 := hb1.size
  clear hb1
  go_upto_region 16 with fail
  refine wp_gen (fun W12 hW => ?_)
  have hk12 : Kp (fun b => b = g3) W11 W12 := by rw [hW]; exact (Kp.refl W11).set ⟨g3, _, none⟩ _ (.inl rfl)
  have el : (l ++ [(⟨nm, 1⟩ : SyR)]).length = l.length + 1 := by simp
  have o19 : Hid (W12.ownsRow G 99 10 (.slice (some ⟨g3, 0, none⟩) (l.length + 1) n3) (l.length + 1) (flat (symC (kd true)) (l ++ [⟨nm, 1⟩]))) := Lib.hid (by
    rw [hW]
    have := (o18.out.stored (l.length * 10 + 4) (.int .u32 1)).1
    rw [flat_set _ 10 (symC_len _) _ l.length 4 ⟨nm, 0⟩ ⟨nm, 1⟩ _ (by simp) (by omega) rfl] at this
    simpa using this)
  clear hW q4 q5 o18
  have sg3 : Hid (S g3 ∨ w.heap.size ≤ g3) := Lib.hid (by
    rcases e3.out with e | e
    · exact .inl (hS1.out _ e)
    · exact .inr (by omega))
  replace hK := Lib.hid (hK.out.trans' hk12 (fun b e q => by subst e; exact sg3.out.resolve_right (by omega)))
  replace o28 := Lib.hid (hk12.own o28.out (fun k e q => (by injection e with e; subst e; exact e4B.out.2.2.2.2.2 q))); replace om7 := Lib.hid (own_map_kept om7.out hk12 (fun q => e3B.out.2.1 q.symm)); replace bc8 := Lib.hid (bc8.out.kept hk12 (fun q => e3B.out.1 q.symm)); replace t6 := Lib.hid (t6.out.kept hk12 (fun q => e3B.out.2.2.2.1 q.symm)); replace t9 := Lib.hid (t9.out.kept hk12 (fun q => e3B.out.2.2.2.2.1 q.symm))
  have z12 := hk12.size
  clear hk12
  have x0 := t9.out.c0; have x1 := t9.out.c1; have x2 := t9.out.c2
  have s0 := t6.out.c0; have s1 := t6.out.c1; have s2 := t6.out.c2; have f0 := t6.out.f0; have f1 := t6.out.f1; have f2 := t6.out.f2
  go_wp2
  clear x0 x1 x2 s0 s1 s2 f0 f1 f2
  have L := t6.out.set l.length
  have hk13 := kp3 W12 (w.heap.size + 1) (.int .i32 0) (.int .u32 0) (.int .u32 l.length)
  generalize (((W12.setCell ⟨w.heap.size + 1, 0, none⟩ (.int .i32 0)).setCell ⟨w.heap.size + 1, 1, none⟩ (.int .u32 0)).setCell ⟨w.heap.size + 1, 2, none⟩ (.int .u32 l.length)) = W13 at L hk13 ⊢
  have nS : ∀ k, S k → ¬ k = w.heap.size + 1 := fun k h e => by have := hlS.out _ h; omega
  have hK13 := hK.out.trans' hk13 (fun b e q => by omega)
  have b13 := bc8.out.kept hk13 (nS _ hS.out.1)
  have p1 := hk13.own o19.out (fun k e q => by injection e with e; subst e; exact e3B.out.2.2.2.1 q)
  have p2 := hk13.own o28.out (fun k e q => (by injection e with e; subst e; exact e4B.out.2.2.2.1 q))
  have pm := own_map_kept om7.out hk13 (nS _ hS.out.2.1)
  have g3l := (p1.lt g3 rfl).2
  have hKs := hK13.size
  refine bodyPost_ret (v := locV l.length) (by simp [results, Tryd.results30, go_sem, L.c0, L.c1, L.c2]) rfl ⟨rfl, hK13, fun k => S k ∨ (w.heap.size ≤ k ∧ k < W13.heap.size), ⟨m1, m2, .slice (some ⟨g3, 0, none⟩) (l.length + 1) n3, .slice (some ⟨g4, 0, none⟩) (l.length + 1) n4, D.put (slit nm) (.lit (.int .u32 (l.length : Int))), ?_⟩, fun k q => q.imp id And.left⟩
  exact { sB := .inl hS.out.1, s1 := .inl hS.out.2.1, s2 := .inl hS.out.2.2
          sv1 := fun k e => by injection e with e; subst e; exact sg3.out.imp id (fun q => ⟨q, g3l⟩)
          sv2 := fun k e => by have e5 : g4 = k := (by injection e); subst e5; rcases e4.out with q | q; exact .inl (hS2.out _ q); exact .inr ⟨by (have := hK.out.size; omega), (p2.lt g4 rfl).2⟩
          lS := fun k h => by rcases h with h | h; (have := hlS.out _ h; omega); exact h.2
          gS := fun k h => by rcases h with h | h; exact hgS.out _ h; omega
          d1 := hdd.out.1, d2 := hdd.out.2.1, d3 := hdd.out.2.2
          dv1 := fun k e => by injection e with e; subst e; exact ⟨e3B.out.1, e3B.out.2.1, e3B.out.2.2.1⟩
          dv2 := fun k e => by injection e with e; subst e; exact ⟨e4B.out.1, e4B.out.2.1, e4B.out.2.2.1⟩
          dvv := fun k e h => by injection e with e; subst e; injection h with h; exact e4B.out.2.2.2.2.2 h
          c15 := b13.c15, c21 := b13.c21, c23 := b13.c23, c24 := b13.c24, c25 := b13.c25, c54 := b13.c54, f21 := b13.f21, f23 := b13.f23
          o1 := by rw [el]; exact p1
          o2 := by rw [el]; exact p2
          om := by rw [el]; exact pm
          nm := nmz.out.add nm 1 hno.out }
set_option maxRecDepth 100000 in
set_option maxHeartbeats 2000000 in
theorem sym25_new_false (nm : ByteArray) (hn : nm.size ≤ maxLen) (w : World) (S : Nat → Prop) (G B m1 m2 : Nat) (v1 v2 : Value) (l : List SyR) (D : DataW Unit) (hl : l.length < 1048576) (hno : ∀ r ∈ l, r.name ≠ nm) (h : PR w S G B m1 m2 v1 v2 false l D) (hI : Inv w) (hG : 3 ≤ G) :
    Calls Tryd.prog 30 #[.pointer (some ⟨B, 0, none⟩), .agg #[.int .i32 0], .string nm] w (SymB w S G B false l.length (l ++ [⟨nm, 1⟩])) := by
  have hD1 := h.dv1; have hD2 := h.dv2; have hDD := h.dvv; have hS1 := h.sv1; have hS2 := h.sv2
  obtain ⟨a1, n1, rfl, -, -⟩ := own_shape h.o1
  obtain ⟨a2, n2, e2, -, -⟩ := own_shape h.o2
  simp only [Bool.false_eq_true, if_false] at e2
  subst e2
  have o1 := Lib.hid h.o1; have o2 := Lib.hid h.o2; have om := Lib.hid h.om; have bc := Lib.hid h.bc; have nmz := Lib.hid h.nm
  simp only [Bool.false_eq_true, if_false] at o2 om
  have hS := Lib.hid (And.intro h.sB (And.intro h.s1 h.s2))
  have hlS := Lib.hid h.lS; have hgS := Lib.hid h.gS
  have hdd := Lib.hid (And.intro h.d1 (And.intro h.d2 h.d3))
  have hD1 := Lib.hid h.dv1; have hD2 := Lib.hid h.dv2; have hDD := Lib.hid h.dvv; have hS1 := Lib.hid h.sv1; have hS2 := Lib.hid h.sv2
  have hBw := h.lS _ h.sB
  clear h
  have hI' := Lib.hid hI
  replace hno := Lib.hid hno
  clear hI
  go_enter Tryd.func30, Tryd.ntmps30
  go_upto_region 1 with fail
  refine wp_gen (fun W0 hW => ?_)
  have hb0 : Below w.heap.size w W0 := by rw [hW]; exact (ba _ _).alloc (by simp) _
  have t4 : Hid (W0.cell? ⟨w.heap.size, 0, none⟩ = some (.int .i32 0)) := Lib.hid (by rw [hW]; exact al (by simp [go_sem]) _)
  have t6 : Hid (LC W0 (w.heap.size + 1) 0) := Lib.hid (by
    rw [hW]
    have := LC.new (w.alloc (.cells #[.int .i32 0] 32)) 0
    simpa using this)
  have z0 : W0.heap.size = w.heap.size + 1 + 1 := by rw [hW]; simp
  clear hW
  have hK : Hid (Kp S w W0) := Lib.hid ((Kp.of hb0).wide (fun _ q => q))
  replace o1 := Lib.hid ((Kp.of (S := fun _ => False) hb0).own o1.out (fun _ _ q => q)); replace o2 := Lib.hid ((Kp.of (S := fun _ => False) hb0).own o2.out (fun _ _ q => q)); replace om := Lib.hid (own_map_kept om.out (Kp.of (S := fun _ => False) hb0) id); replace bc := Lib.hid (bc.out.below hb0); replace hI' := Lib.hid (hI'.out.below hb0)
  clear hb0
  have hhas := nmz.out.off nm hno.out
  obtain ⟨v, ps, hrun, hv⟩ := om.out.look_ok lawS Tryd.underlying49 (z := locV 0) (by kernel_rfl) (locElem_mk 0) (slit_key hn)
  rw [Maps.atKey_of_not_has hhas] at hv
  obtain rfl := locElem_inv hv
  rw [hhas] at hrun
  clear hv hhas
  have x54 := bc.out.c54; have x24 := bc.out.c25
  go_upto_region 9 with fail
  refine wp_gen (fun W1 hW => ?_)
  have hb1 : Below W0.heap.size W0 W1 := by rw [hW]; exact ba _ _
  have t9 : Hid (LC W1 W0.heap.size 0) := Lib.hid (by rw [hW]; exact LC.new W0 0)
  rw [z0] at t9
  have z1 : W1.heap.size = W0.heap.size + 1 := by rw [hW]; simp
  clear hW x54 x24 hrun
  replace hK := Lib.hid (hK.out.trans ((Kp.of hb1).wide (fun _ q => q)))
  replace o1 := Lib.hid ((Kp.of (S := fun _ => False) hb1).own o1.out (fun _ _ q => q)); replace o2 := Lib.hid ((Kp.of (S := fun _ => False) hb1).own o2.out (fun _ _ q => q)); replace om := Lib.hid (own_map_kept om.out (Kp.of (S := fun _ => False) hb1) id); replace bc := Lib.hid (bc.out.below hb1); replace hI' := Lib.hid (hI'.out.below hb1); replace t4 := Lib.hid (ac hb1 t4.out); replace t6 := Lib.hid (t6.out.below hb1)
  clear hb1
  have wl := u32_small l.length (by omega)
  have xx := t9.out.c0
  clear xx
  go_upto_region 10 with fail
  have y4 := fun d os => cell_regrown t4.out d os
  have y15 := fun d os => cell_regrown bc.out.c15 d os
  have y21 := fun d os => cell_regrown bc.out.c21 d os
  refine drawn_tail 14 (by kernel_rfl) (by kernel_rfl) (by kernel_rfl) (fun Q hQ => ?_)
  simp only [List.take_succ_cons, List.take_zero, List.drop_succ_cons, List.drop_zero]
  repeat (quiet_step (fail))
  refine wpQuiet_nil ?_
  clear y4 y15 y21
  intro W2 hw
  have hb1 : Below W1.heap.size W1 W2 := by
    obtain ⟨⟨d, os⟩, rfl⟩ := hw
    exact below_regrown _ d os
  clear hw
  have z2 := hb1.size
  replace hK := Lib.hid (hK.out.trans ((Kp.of hb1).wide (fun _ q => q)))
  replace o1 := Lib.hid ((Kp.of (S := fun _ => False) hb1).own o1.out (fun _ _ q => q)); replace o2 := Lib.hid ((Kp.of (S := fun _ => False) hb1).own o2.out (fun _ _ q => q)); replace om := Lib.hid (own_map_kept om.out (Kp.of (S := fun _ => False) hb1) id); replace bc := Lib.hid (bc.out.below hb1); replace hI' := Lib.hid (hI'.out.below hb1); replace t6 := Lib.hid (t6.out.below hb1); replace t9 := Lib.hid (t9.out.below hb1)
  clear hb1 t4
  have x0 := t9.out.c0; have x1 := t9.out.c1; have x2 := t9.out.c2; have w0 := t9.out.f0; have w1 := t9.out.f1; have w2 := t9.out.f2
  go_upto_region 11 with fail
  refine wp_gen (fun W3 hW => ?_)
  have hk3 : Kp (fun b => b = w.heap.size + 1 + 1) W2 W3 := by rw [hW]; exact kp3 W2 _ _ _ _
  replace t9 : Hid (LC W3 (w.heap.size + 1 + 1) l.length) := Lib.hid (by rw [hW]; exact t9.out.set _)
  clear hW x0 x1 x2 w0 w1 w2
  have nS2 : Hid (∀ k, S k → ¬ k = w.heap.size + 1 + 1) := Lib.hid (fun k hk e => by have := hlS.out k hk; omega)
  have hz0 := hK.out.size
  replace hK := Lib.hid (hK.out.trans' hk3 (fun b e q => by omega))
  replace o1 := Lib.hid (hk3.own o1.out (fun k e => nS2.out k (hS1.out k e))); replace o2 := Lib.hid (hk3.own o2.out (fun k e => nS2.out k (hS2.out k e))); replace om := Lib.hid (own_map_kept om.out hk3 (nS2.out _ hS.out.2.2)); replace bc := Lib.hid (bc.out.kept hk3 (nS2.out _ hS.out.1)); replace hI' := Lib.hid (hI'.out.kept hk3 (by have := hgS.out _ hS.out.1; omega)); replace t6 := Lib.hid (t6.out.kept hk3 (by omega))
  have z3 := hk3.size
  clear hk3
  refine drawn_new_tail 9 0 (fun j => ([.pointer (some ⟨B, 0, none⟩), .pointer (some ⟨B, 0, none⟩), .pointer (some ⟨B, 0, none⟩), .pointer (some ⟨B, 21, none⟩), .slice a1 l.length n1, .int .u8 25, .string nm, .agg #[.int .u32 4294967295, .int .u32 4294967295], .agg (symC 25 ⟨nm, 0⟩).toArray] : List Value).getD j undef) (symC 25 ⟨nm, 0⟩).toArray 99 (by kernel_rfl) (by kernel_rfl) (by kernel_rfl) ?_ ?_
  · refine ⟨?_, ?_⟩
    · intro vs W hC hd
      clear hd
      have HC := Lib.hid (Below.refl W.heap.size W)
      clear hC
      simp only [List.take_succ_cons, List.take_zero, QTail.putA, Nat.reduceAdd, Nat.reduceEqDiff, if_false, reduceIte, Act.put, List.setIfInBounds_toArray, List.set_cons_succ, List.set_cons_zero]
      go_wp2
      exact HC.out
    refine ⟨?_, ?_⟩
    · intro vs W hC hd
      clear hd
      have HC := Lib.hid (Below.refl W.heap.size W)
      clear hC
      simp only [List.take_succ_cons, List.take_zero, QTail.putA, Nat.reduceAdd, Nat.reduceEqDiff, if_false, reduceIte, Act.put, List.setIfInBounds_toArray, List.set_cons_succ, List.set_cons_zero]
      go_wp2
      exact HC.out
    refine ⟨?_, ?_⟩
    · intro vs W hC hd
      have d1 : vs 1 = .pointer (some ⟨B, 0, none⟩) := hd { on := 1, ground := Ground.data } (by simp) rfl (by decide)
      clear hd
      have HC := Lib.hid (Below.refl W.heap.size W)
      clear hC
      simp only [List.take_succ_cons, List.take_zero, QTail.putA, Nat.reduceAdd, Nat.reduceEqDiff, if_false, reduceIte, Act.put, List.setIfInBounds_toArray, List.set_cons_succ, List.set_cons_zero]
      go_wp2
      exact HC.out
    refine ⟨?_, ?_⟩
    · intro vs W hC hd
      have d2 : vs 2 = .pointer (some ⟨B, 0, none⟩) := hd { on := 2, ground := Ground.data } (by simp) rfl (by decide)
      clear hd
      have HC := Lib.hid (Below.refl W.heap.size W)
      clear hC
      simp only [List.take_succ_cons, List.take_zero, QTail.putA, Nat.reduceAdd, Nat.reduceEqDiff, if_false, reduceIte, Act.put, List.setIfInBounds_toArray, List.set_cons_succ, List.set_cons_zero]
      go_wp2
      exact HC.out
    refine ⟨?_, ?_⟩
    · intro vs W hC hd
      have d3 : vs 3 = .pointer (some ⟨B, 21, none⟩) := hd { on := 3, ground := Ground.data } (by simp) rfl (by decide)
      clear hd
      have c21 := ac hC bc.out.c21
      have HC := Lib.hid (Below.refl W.heap.size W)
      clear hC
      simp only [List.take_succ_cons, List.take_zero, QTail.putA, Nat.reduceAdd, Nat.reduceEqDiff, if_false, reduceIte, Act.put, List.setIfInBounds_toArray, List.set_cons_succ, List.set_cons_zero]
      go_wp2
      exact HC.out
    refine ⟨?_, ?_⟩
    · intro vs W hC hd
      clear hd
      have HC := Lib.hid (Below.refl W.heap.size W)
      clear hC
      simp only [List.take_succ_cons, List.take_zero, QTail.putA, Nat.reduceAdd, Nat.reduceEqDiff, if_false, reduceIte, Act.put, List.setIfInBounds_toArray, List.set_cons_succ, List.set_cons_zero]
      go_wp2
      exact HC.out
    refine ⟨?_, ?_⟩
    · intro vs W hC hd
      clear hd
      have HC := Lib.hid (Below.refl W.heap.size W)
      clear hC
      simp only [List.take_succ_cons, List.take_zero, QTail.putA, Nat.reduceAdd, Nat.reduceEqDiff, if_false, reduceIte, Act.put, List.setIfInBounds_toArray, List.set_cons_succ, List.set_cons_zero]
      go_wp2
      exact HC.out
    refine ⟨?_, ?_⟩
    · intro vs W hC hd
      clear hd
      have i0 := ac hC hI'.out.c0; have i1 := ac hC hI'.out.c1
      have HC := Lib.hid (Below.refl W.heap.size W)
      clear hC
      simp only [List.take_succ_cons, List.take_zero, QTail.putA, Nat.reduceAdd, Nat.reduceEqDiff, if_false, reduceIte, Act.put, List.setIfInBounds_toArray, List.set_cons_succ, List.set_cons_zero]
      go_wp2
      exact HC.out
    refine ⟨?_, ?_⟩
    · intro vs W hC hd
      have d5 : vs 5 = .int .u8 25 := hd { on := 5, ground := Ground.data } (by simp) rfl (by decide)
      have d6 : vs 6 = .string nm := hd { on := 6, ground := Ground.data } (by simp) rfl (by decide)
      have d7 : vs 7 = .agg #[.int .u32 4294967295, .int .u32 4294967295] := hd { on := 7, ground := Ground.data } (by simp) rfl (by decide)
      clear hd
      have HC := Lib.hid (Below.refl W.heap.size W)
      clear hC
      simp only [List.take_succ_cons, List.take_zero, QTail.putA, Nat.reduceAdd, Nat.reduceEqDiff, if_false, reduceIte, Act.put, List.setIfInBounds_toArray, List.set_cons_succ, List.set_cons_zero]
      go_wp2
      exact HC.out
    refine ⟨?_, ?_⟩
    · intro vs W hC hd
      have d8 : vs 8 = .agg (symC 25 ⟨nm, 0⟩).toArray := hd { on := 8, ground := Ground.data } (by simp) rfl (by decide)
      clear hd
      have HC := Lib.hid (Below.refl W.heap.size W)
      clear hC
      simp only [List.take_succ_cons, List.take_zero, QTail.putA, Nat.reduceAdd, Nat.reduceEqDiff, if_false, reduceIte, Act.put, List.setIfInBounds_toArray, List.set_cons_succ, List.set_cons_zero]
      go_wp2
    trivial
  intro Q hQ b9 W4 hb1 hlo hhi hnew
  simp only [List.take_succ_cons, List.take_zero, List.drop_succ_cons, List.drop_zero, QTail.putA, Nat.reduceAdd, Nat.reduceEqDiff, if_false, reduceIte, Act.put, List.setIfInBounds_toArray, List.set_cons_succ, List.set_cons_zero]
  replace hK := Lib.hid (hK.out.trans ((Kp.of hb1).wide (fun _ q => q)))
  replace o1 := Lib.hid ((Kp.of (S := fun _ => False) hb1).own o1.out (fun _ _ q => q)); replace o2 := Lib.hid ((Kp.of (S := fun _ => False) hb1).own o2.out (fun _ _ q => q)); replace om := Lib.hid (own_map_kept om.out (Kp.of (S := fun _ => False) hb1) id); replace bc := Lib.hid (bc.out.below hb1); replace hI' := Lib.hid (hI'.out.below hb1); replace t6 := Lib.hid (t6.out.below hb1); replace t9 := Lib.hid (t9.out.below hb1)
  have z4 := hb1.size
  clear hb1 hlo hhi
  have hGw : G ≤ W4.heap.size := by have := hgS.out _ hS.out.1; omega
  have x21 := bc.out.c21
  go_upto_region 12 with (at_builtin; go_loud (refine app1g (.tmp 49) (.tmp 54) 72 99 G 10 48 z116 (symC 25 ⟨nm, 0⟩).toArray b9 _ l.length _ rfl rfl rfl rfl hnew Tryd.underlying72 info116 rfl (by omega) o1.out rfl (symC_one 25 ⟨nm, 0⟩) (by omega) (by omega) hGw ?_); intro v3 W5 h3 hkp hnw; obtain ⟨g3, n3, rfl, -, -, -, -⟩ := own_some h3 (by omega); replace hkp := Lib.hid hkp; replace h3 := Lib.hid h3; replace hnw := Lib.hid hnw; have x21b := hkp.out.cell bc.out.c21 (fun e => (hD1.out _ e).1 rfl); have f21b := hkp.out.froz bc.out.c21 bc.out.f21 (fun e => (hD1.out _ e).1 rfl))
  refine wp_gen (fun W6 hW => ?_)
  have hGB := hgS.out _ hS.out.1
  have z5 := hkp.out.size
  have nT : Hid (∀ k, (Value.slice a1 l.length n1).ownBlock = some k → k < w.heap.size) := Lib.hid (fun k e => hlS.out _ (hS1.out k e))
  -- the row's new block
  have e3 : Hid ((Value.slice a1 l.length n1).ownBlock = some g3 ∨ W4.heap.size ≤ g3) := Lib.hid (hnw.out g3 rfl)
  have e3B : Hid (g3 ≠ B ∧ g3 ≠ m1 ∧ g3 ≠ m2 ∧ g3 ≠ w.heap.size + 1 ∧ g3 ≠ w.heap.size + 1 + 1 ∧ (Value.slice a2 0 n2).ownBlock ≠ some g3) := Lib.hid (by
    have q1 := hlS.out _ hS.out.2.1; have q2 := hlS.out _ hS.out.2.2
    rcases e3.out with e | e
    · have q3 := hD1.out _ e
      have q4 := nT.out _ e
      exact ⟨q3.1, q3.2.1, q3.2.2, by omega, by omega, hDD.out _ e⟩
    · exact ⟨by omega, by omega, by omega, by omega, by omega, fun h => by have := hlS.out _ (hS2.out _ h); omega⟩)
  clear hnw
  have hk6 : Kp (fun b => (Value.slice a1 l.length n1).ownBlock = some b ∨ b = B) W4 W6 := by rw [hW]; exact (hkp.out.wide (fun b q => .inl q)).set _ _ (.inl (.inr rfl))
  have bc6 : Hid (BC W6 B m1 m2 (.slice (some ⟨g3, 0, none⟩) (l.length + 1) n3) (.slice a2 0 n2) false) := Lib.hid (by rw [hW]; exact (bc.out.kept hkp.out (fun e => (hD1.out _ e).1 rfl)).set21 _)
  have hks : Kp (fun b => b = B) W5 W6 := by rw [hW]; exact (Kp.refl W5).set ⟨B, 21, none⟩ _ (.inl rfl)
  have o16 : Hid (W6.ownsRow G 99 10 (.slice (some ⟨g3, 0, none⟩) (l.length + 1) n3) (l.length + 1) (flat (symC (kd false)) (l ++ [⟨nm, 0⟩]))) := Lib.hid (by
    have := hks.own h3.out (fun k e q => by subst q; injection e with e; exact e3B.out.1 e)
    rw [← flat_add]
    exact this)
  clear hW hks h3 x21 x21b f21b bc o1 hkp
  have n1B : Hid (∀ b, ((Value.slice a1 l.length n1).ownBlock = some b ∨ b = B) → S b) := Lib.hid (fun b q => by rcases q with q | rfl; exact hS1.out _ q; exact hS.out.1)
  replace hK := Lib.hid (hK.out.trans (hk6.wide n1B.out))
  replace o2 := Lib.hid (hk6.own o2.out (fun k e q => by rcases q with q | rfl; exact hDD.out _ q e; exact (hD2.out _ e).1 rfl))
  replace om := Lib.hid (own_map_kept om.out hk6 (fun q => by rcases q with q | q; exact (fun q => q.2.2 rfl) (hD1.out _ q); exact hdd.out.2.1.symm q))
  replace t6 := Lib.hid (t6.out.kept hk6 (fun q => by have := hlS.out _ (n1B.out _ q); omega)); replace t9 := Lib.hid (t9.out.kept hk6 (fun q => by have := hlS.out _ (n1B.out _ q); omega))
  have z6 := hk6.size
  clear hk6
  have x0 := t9.out.c0; have x1 := t9.out.c1; have x2 := t9.out.c2
  go_upto_region 13 with (at_mapUpdate; go_loud (refine wpList_mapUpdate_own _ rfl _ _ _ 49 rfl 9 103 lawS Tryd.underlying49 _ m2 l.length D rfl om.out (by unfold maxLen; omega) _ _ _ rfl rfl (slit_key hn) _ [] (locElem_mk l.length) ?_); intro W7 om7 hg7; replace om7 := Lib.hid om7; replace hg7 := Lib.hid (Kp.grown hg7))
  simp only [Act.put]
  have nM : Hid (∀ k, (some m2 = some k) → k = m2) := Lib.hid (fun k e => (Option.some.inj e).symm)
  have lm := hlS.out _ hS.out.2.2
  have bc7 : Hid (BC W7 B m1 m2 (.slice (some ⟨g3, 0, none⟩) (l.length + 1) n3) (.slice a2 0 n2) false) := Lib.hid (bc6.out.kept hg7.out (fun q => hdd.out.2.1.symm (nM.out _ q).symm))
  have o17 : Hid (W7.ownsRow G 99 10 (.slice (some ⟨g3, 0, none⟩) (l.length + 1) n3) (l.length + 1) (flat (symC (kd false)) (l ++ [⟨nm, 0⟩]))) := Lib.hid (hg7.out.own o16.out (fun k e q => by injection e with e; subst e; have := nM.out _ q; exact e3B.out.2.2.1 this))
  replace o2 := Lib.hid (hg7.out.own o2.out (fun k e q => by have := nM.out _ q; exact (hD2.out _ e).2.2 this))
  replace t6 := Lib.hid (t6.out.kept hg7.out (fun q => by have := nM.out _ q; omega)); replace t9 := Lib.hid (t9.out.kept hg7.out (fun q => by have := nM.out _ q; omega))
  replace hK := Lib.hid (hK.out.trans (hg7.out.wide (fun b q => by rw [nM.out _ q]; exact hS.out.2.2)))
  have z7 := hg7.out.size
  clear hg7 bc6 o16 om x0 x1 x2
  go_upto_region 15 with fail
  have bc8 := bc7; have o28 := o2; have o18 := o17
  clear bc7 o2 o17
  obtain ⟨W10, rfl⟩ : ∃ W10, W10 = W7 := ⟨_, rfl⟩
  have hcell := own_at (symC_len (kd false)) o18.out (i := l.length) (x := ⟨nm, 0⟩) (by simp) (j := 4) rfl
  have hfz := o18.out.frozenAt (l.length * 10 + 4)
  have y21 := fun d os => cell_regrown bc8.out.c21 d os
  have y2 := fun d os => cell_regrown t9.out.c2 d os
  have yc := fun d os => cell_regrown hcell d os
  have j0 : (0 : Int) ≤ (l.length : Int) := by omega
  have j1 : (l.length : Int) < (l.length : Int) + 1 := by omega
  refine drawn_tail 13 (by kernel_rfl) (by kernel_rfl) (by kernel_rfl) (fun Q hQ => ?_)
  simp only [List.take_succ_cons, List.take_zero, List.drop_succ_cons, List.drop_zero]
  repeat (quiet_step (fail))
  refine wpQuiet_nil ?_
  clear y21 y2 yc
  intro W11 hw
  have hb1 : Below W10.heap.size W10 W11 := by
    obtain ⟨⟨d, os⟩, rfl⟩ := hw
    exact below_regrown _ d os
  clear hw
  have q4 := ac hb1 hcell
  have q5 := af hb1 hcell hfz
  clear hcell hfz
  replace hK := Lib.hid (hK.out.trans ((Kp.of hb1).wide (fun _ q => q)))
  replace o18 := Lib.hid ((Kp.of (S := fun _ => False) hb1).own o18.out (fun _ _ q => q)); replace o28 := Lib.hid ((Kp.of (S := fun _ => False) hb1).own o28.out (fun _ _ q => q)); replace om7 := Lib.hid (own_map_kept om7.out (Kp.of (S := fun _ => False) hb1) id); replace bc8 := Lib.hid (bc8.out.below hb1); replace t6 := Lib.hid (t6.out.below hb1); replace t9 := Lib.hid (t9.out.below hb1)
  have z11 := hb1.size
  clear hb1
  go_upto_region 16 with fail
  refine wp_gen (fun W12 hW => ?_)
  have hk12 : Kp (fun b => b = g3) W11 W12 := by rw [hW]; exact (Kp.refl W11).set ⟨g3, _, none⟩ _ (.inl rfl)
  have el : (l ++ [(⟨nm, 1⟩ : SyR)]).length = l.length + 1 := by simp
  have o19 : Hid (W12.ownsRow G 99 10 (.slice (some ⟨g3, 0, none⟩) (l.length + 1) n3) (l.length + 1) (flat (symC (kd false)) (l ++ [⟨nm, 1⟩]))) := Lib.hid (by
    rw [hW]
    have := (o18.out.stored (l.length * 10 + 4) (.int .u32 1)).1
    rw [flat_set _ 10 (symC_len _) _ l.length 4 ⟨nm, 0⟩ ⟨nm, 1⟩ _ (by simp) (by omega) rfl] at this
    simpa using this)
  clear hW q4 q5 o18
  have sg3 : Hid (S g3 ∨ w.heap.size ≤ g3) := Lib.hid (by
    rcases e3.out with e | e
    · exact .inl (hS1.out _ e)
    · exact .inr (by omega))
  replace hK := Lib.hid (hK.out.trans' hk12 (fun b e q => by subst e; exact sg3.out.resolve_right (by omega)))
  replace o28 := Lib.hid (hk12.own o28.out (fun k e q => (e3B.out.2.2.2.2.2 (q ▸ e)))); replace om7 := Lib.hid (own_map_kept om7.out hk12 (fun q => e3B.out.2.2.1 q.symm)); replace bc8 := Lib.hid (bc8.out.kept hk12 (fun q => e3B.out.1 q.symm)); replace t6 := Lib.hid (t6.out.kept hk12 (fun q => e3B.out.2.2.2.1 q.symm)); replace t9 := Lib.hid (t9.out.kept hk12 (fun q => e3B.out.2.2.2.2.1 q.symm))
  have z12 := hk12.size
  clear hk12
  have x0 := t9.out.c0; have x1 := t9.out.c1; have x2 := t9.out.c2
  have s0 := t6.out.c0; have s1 := t6.out.c1; have s2 := t6.out.c2; have f0 := t6.out.f0; have f1 := t6.out.f1; have f2 := t6.out.f2
  go_wp2
  clear x0 x1 x2 s0 s1 s2 f0 f1 f2
  have L := t6.out.set l.length
  have hk13 := kp3 W12 (w.heap.size + 1) (.int .i32 0) (.int .u32 0) (.int .u32 l.length)
  generalize (((W12.setCell ⟨w.heap.size + 1, 0, none⟩ (.int .i32 0)).setCell ⟨w.heap.size + 1, 1, none⟩ (.int .u32 0)).setCell ⟨w.heap.size + 1, 2, none⟩ (.int .u32 l.length)) = W13 at L hk13 ⊢
  have nS : ∀ k, S k → ¬ k = w.heap.size + 1 := fun k h e => by have := hlS.out _ h; omega
  have hK13 := hK.out.trans' hk13 (fun b e q => by omega)
  have b13 := bc8.out.kept hk13 (nS _ hS.out.1)
  have p1 := hk13.own o19.out (fun k e q => by injection e with e; subst e; exact e3B.out.2.2.2.1 q)
  have p2 := hk13.own o28.out (fun k e q => (nS _ (hS2.out _ e) q))
  have pm := own_map_kept om7.out hk13 (nS _ hS.out.2.2)
  have g3l := (p1.lt g3 rfl).2
  have hKs := hK13.size
  refine bodyPost_ret (v := locV l.length) (by simp [results, Tryd.results30, go_sem, L.c0, L.c1, L.c2]) rfl ⟨rfl, hK13, fun k => S k ∨ (w.heap.size ≤ k ∧ k < W13.heap.size), ⟨m1, m2, .slice (some ⟨g3, 0, none⟩) (l.length + 1) n3, .slice a2 0 n2, D.put (slit nm) (.lit (.int .u32 (l.length : Int))), ?_⟩, fun k q => q.imp id And.left⟩
  exact { sB := .inl hS.out.1, s1 := .inl hS.out.2.1, s2 := .inl hS.out.2.2
          sv1 := fun k e => by injection e with e; subst e; exact sg3.out.imp id (fun q => ⟨q, g3l⟩)
          sv2 := fun k e => by exact .inl (hS2.out _ e)
          lS := fun k h => by rcases h with h | h; (have := hlS.out _ h; omega); exact h.2
          gS := fun k h => by rcases h with h | h; exact hgS.out _ h; omega
          d1 := hdd.out.1, d2 := hdd.out.2.1, d3 := hdd.out.2.2
          dv1 := fun k e => by injection e with e; subst e; exact ⟨e3B.out.1, e3B.out.2.1, e3B.out.2.2.1⟩
          dv2 := fun k e => by exact hD2.out _ e
          dvv := fun k e h => by injection e with e; subst e; exact e3B.out.2.2.2.2.2 h
          c15 := b13.c15, c21 := b13.c21, c23 := b13.c23, c24 := b13.c24, c25 := b13.c25, c54 := b13.c54, f21 := b13.f21, f23 := b13.f23
          o1 := by rw [el]; exact p1
          o2 := by exact p2
          om := by rw [el]; exact pm
          nm := nmz.out.add nm 1 hno.out }
end Go.Proofs.YtpjbhbbhkhfiaaaDoor
