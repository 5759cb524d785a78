/- Selectors that are built: words, the small contracts. -/
import Derived.Test.YtidmdcadejfjhaaAn
import Derived.Test.YtidmdcadejfjhaaArg
import Derived.Test.YtidmdcadejfjhaaMk
import Derived.Deep.DeepCutAuto
import Derived.WalkSpells
import Derived.Laws.OwnMore
import Derived.OwnWalk
set_option linter.unusedVariables false
set_option linter.unusedSimpArgs false
namespace Go.Proofs.Ytidmdcadejfjhaa
open Go.RowKit
set_option maxRecDepth 100000
set_option maxHeartbeats 4000000
/-- a block of cells of type e -/
def Ty (w : World) (e : TypeId) (b : Nat) : Prop := ∃ cur fr, w.heap[b]? = some (.cells cur e fr)
/-- only blocks of type e (and new ones) have turned -/
abbrev KT (e : TypeId) (w w' : World) : Prop := Kp (Ty w e) w w'
theorem KT.of {e : TypeId} {w w' : World} (h : Below w.heap.size w w') : KT e w w' := Kp.of h
theorem KT.trans {e : TypeId} {w w1 w2 : World} (h : KT e w w1) (h' : KT e w1 w2) : KT e w w2 := by
  refine ⟨h'.os.trans h.os, h'.tape.trans h.tape, h'.output.trans h.output, Nat.le_trans h.size h'.size, fun k hk hn => ?_⟩
  have e1 := h.block k hk hn
  rw [← e1]
  refine h'.block k (Nat.lt_of_lt_of_le hk h.size) (fun ⟨cur, fr, q⟩ => hn ⟨cur, fr, by rw [← e1]; exact q⟩)
theorem KT.app {e : TypeId} {w w' : World} {B z : Nat} {v : Value} {n : Nat} {xs : List Value} (h : w.ownsRow B e z v n xs) (hk : Kp (fun b => v.ownBlock = some b) w w') : KT e w w' := hk.wide (fun b hb => by
  rcases h.2 with ⟨rfl, _⟩ | ⟨g, cap, cur, rfl, _, hg, _⟩
  · simp [Value.ownBlock] at hb
  · simp [Value.ownBlock] at hb
    subst hb
    exact ⟨cur, _, hg⟩)
theorem KT.own {e e' : TypeId} {w w' : World} {B z : Nat} {v : Value} {n : Nat} {xs : List Value} (hk : KT e w w') (h : w.ownsRow B e' z v n xs) (hne : e' ≠ e) : w'.ownsRow B e' z v n xs := by
  refine Kp.own hk h (fun k hb ⟨cur, fr, hg⟩ => ?_)
  rcases h.2 with ⟨rfl, _⟩ | ⟨g, cap, cur', rfl, _, hg', _⟩
  · simp [Value.ownBlock] at hb
  · simp [Value.ownBlock] at hb
    subst hb
    rw [hg] at hg'
    injection hg' with hg'
    injection hg' with _ h2
    exact hne h2.symm
/-- what a slice of selectors holds is of its own blocks: B0 is where the call's own blocks begin -/
structure SubR where
  t : TypeId
  p : Value
  d : Bool
abbrev SubR.v (s : SubR) : Value := .iface s.t s.p
structure CpR where
  a : Option Addr
  n : Nat
  c : Nat
  ls : List SubR
structure CxR where
  a : Option Addr
  n : Nat
  c : Nat
  ls : List CpR
abbrev SubR.arr (s : SubR) : Array Value := #[s.v, .int .i32 0, .int .i32 0]
abbrev CpR.arr (s : CpR) : Array Value := #[.pointer none, .slice s.a s.n s.c, .slice none 0 0, .int .i32 0, .int .u8 0, .bool false]
abbrev CxR.arr (s : CxR) : Array Value := #[.slice s.a s.n s.c]
def SubR.cells (s : SubR) : List Value := s.arr.toList
def CpR.cells (s : CpR) : List Value := s.arr.toList
def CxR.cells (s : CxR) : List Value := s.arr.toList
theorem SubR.len (s : SubR) : s.cells.length = 3 := rfl
theorem CpR.len (s : CpR) : s.cells.length = 6 := rfl
theorem CxR.len (s : CxR) : s.cells.length = 1 := rfl
def deadB (n : Nat) (k : Int) : Bool := n == 0 && (k == 2 || k == 9)
/-- the subclass selector s: what its value leads to -/
def GSub (w : World) (s : SubR) : Prop :=
  (s.t = 106 ∧ s.d = false) ∨
  (∃ (B n c : Nat) (a : Option Addr) (x y : ByteArray) (k : Int), (s.t = 97 ∧ s.p = .pointer (some ⟨B, 0, none⟩)) ∧ w.heap[B]? = some (.cells #[.slice a n c, .string x, .string y, .int .u8 k] 103 (0, 0)) ∧ s.d = deadB n k)
theorem GSub.kt {e : TypeId} {w w' : World} {s : SubR} (h : GSub w s) (hk : KT e w w') (he : (103 : TypeId) ≠ e) : GSub w' s := by
  rcases h with h | ⟨B, n, c, a, x, y, k, h1, h2, h3⟩
  · exact .inl h
  · refine .inr ⟨B, n, c, a, x, y, k, h1, ?_, h3⟩
    rw [hk.block B (Array.getElem?_eq_some_iff.1 h2).1 (fun ⟨cur, fr, q⟩ => by rw [h2] at q; injection q with q; injection q with _ q; exact he q)]
    exact h2
def GCp (w : World) (r : CpR) : Prop := w.ownsRow 0 95 3 (.slice r.a r.n r.c) r.n (flat SubR.cells r.ls) ∧ (∀ s ∈ r.ls, GSub w s)
theorem GCp.kt {e : TypeId} {w w' : World} {s : CpR} (h : GCp w s) (hk : KT e w w') (he : (103 : TypeId) ≠ e) (he' : (95 : TypeId) ≠ e) : GCp w' s := ⟨hk.own h.1 he', fun x hx => (h.2 x hx).kt hk he⟩
def GCx (w : World) (r : CxR) : Prop := w.ownsRow 0 84 6 (.slice r.a r.n r.c) r.n (flat CpR.cells r.ls) ∧ (∀ s ∈ r.ls, GCp w s)
theorem GCx.kt {e : TypeId} {w w' : World} {s : CxR} (h : GCx w s) (hk : KT e w w') (he : (103 : TypeId) ≠ e) (he' : (95 : TypeId) ≠ e) (he'' : (84 : TypeId) ≠ e) : GCx w' s := ⟨hk.own h.1 he'', fun x hx => (h.2 x hx).kt hk he he'⟩
def CpR.dead (r : CpR) : Bool := r.ls.any SubR.d
def CxR.dead (r : CxR) : Bool := r.ls.any CpR.dead
theorem info95 : (Try.prog.info? 95).map (fun i => (i.zero.map (·.cells), i.size, i.bytes)) = some (some #[.nilIface, .int .i32 0, .int .i32 0], 3, 24) := by kernel_rfl
theorem info84 : (Try.prog.info? 84).map (fun i => (i.zero.map (·.cells), i.size, i.bytes)) = some (some #[.pointer none, .slice none 0 0, .slice none 0 0, .int .i32 0, .int .u8 0, .bool false], 6, 72) := by kernel_rfl
theorem info50 : (Try.prog.info? 50).map (fun i => (i.zero.map (·.cells), i.size, i.bytes)) = some (some #[.slice none 0 0], 1, 24) := by kernel_rfl
theorem info3 : (Try.prog.info? 3).map (fun i => (i.zero.map (·.cells), i.size, i.bytes)) = some (some #[.int .i64 0], 1, 8) := by kernel_rfl
def SomeB (w : World) (e : Ending) (w' : World) : Prop := ∃ b : Bool, e = .returned (.bool b) ∧ w = w'
def SomeI (w : World) (e : Ending) (w' : World) : Prop := ∃ x : Int, e = .returned (.int .i64 x) ∧ w = w'
def ByteI (w : World) (e : Ending) (w' : World) : Prop := ∃ x : Nat, e = .returned (.int .i64 x) ∧ x ≤ 255 ∧ w = w'
/-- a slice of bytes, read -/
structure Byt (w : World) (A : Option Addr) (n : Nat) (f : Nat → Int) : Prop where
  row : Row .u8 w A n f
  wf : ∀ i, i < n → 0 ≤ f i ∧ f i ≤ 255
  le : n ≤ 1048576
theorem Byt.after {w w' : World} {A : Option Addr} {n : Nat} {f : Nat → Int} (h : Byt w A n f) (hb : Below w.heap.size w w') : Byt w' A n f := ⟨h.row.after hb, h.wf, h.le⟩
theorem at17_c (A : Option Addr) (n c : Nat) (f : Nat → Int) (j : Int) (w : World) (h : Byt w A n f) : Calls Try.prog 17 #[.slice A n c, .int .i64 j] w (ByteI w) := by
  have hn := h.le
  by_cases h0 : 0 ≤ j
  · by_cases h1 : j < n
    · obtain ⟨x, rfl, hc⟩ := h.row j.toNat (by omega)
      obtain ⟨g0, g1⟩ := h.wf j.toNat (by omega)
      obtain ⟨k, rfl⟩ : ∃ k : Nat, j = k := ⟨j.toNat, by omega⟩
      simp only [Int.toNat_natCast] at hc g0 g1
      have ht : Hid (∃ m : Nat, f k = m ∧ m ≤ 255) := Lib.hid ⟨(f k).toNat, by omega, by omega⟩
      obtain ⟨m, hm, hm'⟩ := ht.out
      rw [hm] at hc
      clear ht hm g0 g1 h
      go_enter Try.func17, Try.ntmps17
      go_wp2
      go_ret
      exact ⟨m, rfl, hm', rfl⟩
    · clear h
      have h1' : (n : Int) ≤ j := by omega
      go_enter Try.func17, Try.ntmps17
      go_wp2
      go_ret
      exact ⟨0, rfl, by omega, rfl⟩
  · clear h
    go_enter Try.func17, Try.ntmps17
    go_wp2
    go_ret
    exact ⟨0, rfl, by omega, rfl⟩
theorem dead20_c (A B : Option Addr) (n c m c' : Nat) (f g : Nat → Int) (j : Int) (w : World) (h : Byt w A n f) (h' : Byt w B m g) : Calls Try.prog 20 #[.slice A n c, .slice B m c', .int .i64 j] w (SomeB w) := by
  have C := Lib.hid (at17_c A n c f j w h); have C' := Lib.hid (at17_c B m c' g j w h')
  clear h h'
  go_enter Try.func20, Try.ntmps20
  go_wp2_with (first | (go_at_call 17; (with_reducible refine C.out.mono ?_); rintro e w' ⟨x, rfl, hx, rfl⟩) | (go_at_call 17; (with_reducible refine C'.out.mono ?_); rintro e w' ⟨y, rfl, hy, rfl⟩))
  all_goals (go_ret; exact ⟨_, rfl, rfl⟩)
theorem key21_c (A B : Option Addr) (n c m c' : Nat) (f g : Nat → Int) (j : Int) (w : World) (h : Byt w A n f) (h' : Byt w B m g) : Calls Try.prog 21 #[.slice A n c, .slice B m c', .int .i64 j] w (SomeI w) := by
  have C := Lib.hid (at17_c A n c f j w h); have C' := Lib.hid (at17_c B m c' g j w h')
  clear h h'
  go_enter Try.func21, Try.ntmps21
  go_wp2_with (first | (go_at_call 17; (with_reducible refine C.out.mono ?_); rintro e w' ⟨x, rfl, hx, rfl⟩) | (go_at_call 17; (with_reducible refine C'.out.mono ?_); rintro e w' ⟨y, rfl, hy, rfl⟩))
  all_goals (go_ret; exact ⟨_, rfl, rfl⟩)
def SubP (w : World) (e : Ending) (w' : World) : Prop := ∃ s : SubR, e = .returned (.agg s.arr) ∧ GSub w' s ∧ Below w.heap.size w w'
theorem plain23_c (w : World) : Calls Try.prog 23 #[] w (SubP w) := by
  go_enter Try.func23, Try.ntmps23
  go_wp2
  exact bodyPost_ret (v := .agg (SubR.arr ⟨106, .pointer (some ⟨w.heap.size + 1, 0, none⟩), false⟩)) (by simp [results, Try.results23, go_sem]) rfl ⟨_, rfl, .inl ⟨rfl, rfl⟩, (ba _ _).alloc (by simp) _⟩
theorem heap2 (w : World) (o o' : Obj) : ((w.alloc o).alloc o').heap[w.heap.size + 1]? = some o' := by
  have := heap_alloc_new (w.alloc o) o'
  simpa using this
theorem list24_c (k : Int) (a : Option Addr) (n c : Nat) (w : World) : Calls Try.prog 24 #[.int .u8 k, .slice a n c] w (SubP w) := by
  go_enter Try.func24, Try.ntmps24
  go_wp2
  exact bodyPost_ret (v := .agg (SubR.arr ⟨97, .pointer (some ⟨w.heap.size + 1, 0, none⟩), deadB n k⟩)) (by simp [results, Try.results24, go_sem]) rfl ⟨_, rfl, .inr ⟨_, n, c, a, _, _, k, ⟨rfl, rfl⟩, heap2 _ _ _, rfl⟩, (ba _ _).alloc (by simp) _⟩
theorem store3 {w : World} {P B : Nat} {xs : List Value} (h : w.ownsRow B 95 3 (.slice (some ⟨P, 0, none⟩) 1 1) 1 xs) (s : SubR) :
    (((w.setCell ⟨P, 0, none⟩ s.v).setCell ⟨P, 1, none⟩ (.int .i32 0)).setCell ⟨P, 2, none⟩ (.int .i32 0)).ownsRow B 95 3 (.slice (some ⟨P, 0, none⟩) 1 1) 1 s.cells ∧ KT 95 w (((w.setCell ⟨P, 0, none⟩ s.v).setCell ⟨P, 1, none⟩ (.int .i32 0)).setCell ⟨P, 2, none⟩ (.int .i32 0)) := by
  have h0 := h.stored 0 s.v
  have h1 := h0.1.stored 1 (.int .i32 0)
  have h2 := h1.1.stored 2 (.int .i32 0)
  refine ⟨?_, (KT.trans (KT.app h (Kp.grown h0.2 |>.wide (fun b e => by simpa [Value.ownBlock] using e))) (KT.app h0.1 (Kp.grown h1.2 |>.wide (fun b e => by simpa [Value.ownBlock] using e)))).trans (KT.app h1.1 (Kp.grown h2.2 |>.wide (fun b e => by simpa [Value.ownBlock] using e)))⟩
  have hl := h.1
  match xs, hl with
  | [x0, x1, x2], _ => exact h2.1
theorem own3 {w : World} {P B : Nat} {xs : List Value} (h : w.ownsRow B 95 3 (.slice (some ⟨P, 0, none⟩) 1 1) 1 xs) : ∃ v0 v1 v2, w.cell? ⟨P, 0, none⟩ = some v0 ∧ w.cell? ⟨P, 1, none⟩ = some v1 ∧ w.cell? ⟨P, 2, none⟩ = some v2 ∧ w.frozen? ⟨P, 0, none⟩ = false ∧ w.frozen? ⟨P, 1, none⟩ = false ∧ w.frozen? ⟨P, 2, none⟩ = false := by
  have hl := h.1
  match xs, hl with
  | [x0, x1, x2], _ => exact ⟨x0, x1, x2, h.cellAt 0 (by omega), h.cellAt 1 (by omega), h.cellAt 2 (by omega), h.frozenAt 0, h.frozenAt 1, h.frozenAt 2⟩
theorem own_below {w w' : World} {B : Nat} {e : TypeId} {z : Nat} {v : Value} {n : Nat} {xs : List Value} (h : w.ownsRow B e z v n xs) (hb : Below w.heap.size w w') : w'.ownsRow B e z v n xs := (Kp.of (S := fun _ => False) hb).own h (fun _ _ q => q)
theorem sub22_c (A B : Option Addr) (n c m c' : Nat) (f g : Nat → Int) (j : Int) (w : World) (h : Byt w A n f) (h' : Byt w B m g) : Calls Try.prog 22 #[.slice A n c, .slice B m c', .int .i64 j] w (SubP w) := by
  have C := Lib.hid (fun w' (hb : Below w.heap.size w w') => at17_c A n c f j w' (h.after hb)); have C' := Lib.hid (fun w' (hb : Below w.heap.size w w') => at17_c B m c' g j w' (h'.after hb))
  clear h h'
  go_enter Try.func22, Try.ntmps22
  go_upto_region 3 with (first | (go_at_call 17; (with_reducible refine (C.out _ (ba _ _)).mono ?_); rintro e w' ⟨x, rfl, hx, rfl⟩) | (go_at_call 17; (with_reducible refine (C'.out _ (ba _ _)).mono ?_); rintro e w' ⟨y, rfl, hy, rfl⟩))
  refine wp_gen (fun W hW => ?_)
  have hO : Hid (W.ownsRow w.heap.size 95 3 (.slice (some ⟨w.heap.size, 0, none⟩) 1 1) 1 [.nilIface, .int .i32 0, .int .i32 0]) := Lib.hid (by rw [hW]; exact World.ownsRow_lit _ #[.nilIface, .int .i32 0, .int .i32 0] 1 (Nat.le_refl _) (by decide) rfl)
  have hB : Hid (Below w.heap.size w W) := Lib.hid (by rw [hW]; exact ba _ _)
  clear hW C C'
  by_cases h0 : x % 3 = 0
  · have t0 : ((x : Int) % 3 == 0) = true := by simp; omega
    go_wp2_with (go_at_call 23; (with_reducible refine (plain23_c _).mono ?_); rintro e w1 ⟨s, rfl, hg, hb⟩; replace hO := Lib.hid (own_below hO.out hb); have hB1 := Lib.hid (hB.out.trans (hb.mono hB.out.size)); replace hg := Lib.hid hg; clear hb hB; obtain ⟨v0, v1, v2, c0, c1, c2, f0, f1, f2⟩ := own3 hO.out; have hst := Lib.hid (store3 hO.out s); clear hO)
    have HP : SubP w (.returned (.agg s.arr)) (((w1.setCell ⟨w.heap.size, 0, none⟩ s.v).setCell ⟨w.heap.size, 1, none⟩ (.int .i32 0)).setCell ⟨w.heap.size, 2, none⟩ (.int .i32 0)) := ⟨s, rfl, hg.out.kt hst.out.2 (by decide), ((hB1.out.setCell (Nat.le_refl _) _).setCell (Nat.le_refl _) _).setCell (Nat.le_refl _) _⟩
    exact bodyPost_ret (v := .agg s.arr) (by simp [results, Try.results22, go_sem, c0, c1, c2]) rfl HP
  · have t0 : ((x : Int) % 3 == 0) = false := by simp; omega
    by_cases h1 : x % 3 = 1
    · have t1 : ((x : Int) % 3 == 1) = true := by simp; omega
      go_wp2_with (go_at_call 24; (with_reducible refine (list24_c _ _ _ _ _).mono ?_); rintro e w1 ⟨s, rfl, hg, hb⟩; replace hO := Lib.hid (own_below hO.out hb); have hB1 := Lib.hid (hB.out.trans (hb.mono hB.out.size)); replace hg := Lib.hid hg; clear hb hB; obtain ⟨v0, v1, v2, c0, c1, c2, f0, f1, f2⟩ := own3 hO.out; have hst := Lib.hid (store3 hO.out s); clear hO)
      have HP : SubP w (.returned (.agg s.arr)) (((w1.setCell ⟨w.heap.size, 0, none⟩ s.v).setCell ⟨w.heap.size, 1, none⟩ (.int .i32 0)).setCell ⟨w.heap.size, 2, none⟩ (.int .i32 0)) := ⟨s, rfl, hg.out.kt hst.out.2 (by decide), ((hB1.out.setCell (Nat.le_refl _) _).setCell (Nat.le_refl _) _).setCell (Nat.le_refl _) _⟩
      exact bodyPost_ret (v := .agg s.arr) (by simp [results, Try.results22, go_sem, c0, c1, c2]) rfl HP
    · have t1 : ((x : Int) % 3 == 1) = false := by simp; omega
      go_upto_region 8 with (go_at_call 23; (with_reducible refine (plain23_c _).mono ?_); rintro e w1 ⟨s, rfl, hg, hb⟩; replace hO := Lib.hid (own_below hO.out hb); replace hB := Lib.hid (hB.out.trans (hb.mono hB.out.size)); clear hb hg)
      refine wp_gen (fun W2 hW => ?_)
      have hb : Below w1.heap.size w1 W2 := by rw [hW]; exact ((ba _ _).alloc (by simp) _).alloc (by simp; omega) _
      replace hO := Lib.hid (own_below hO.out hb); replace hB := Lib.hid (hB.out.trans (hb.mono hB.out.size))
      clear hW hb
      go_wp2_with (go_at_call 24; (with_reducible refine (list24_c _ _ _ _ _).mono ?_); rintro e w3 ⟨s, rfl, hg, hb⟩; replace hO := Lib.hid (own_below hO.out hb); have hB1 := Lib.hid (hB.out.trans (hb.mono hB.out.size)); replace hg := Lib.hid hg; clear hb hB; obtain ⟨v0, v1, v2, c0, c1, c2, f0, f1, f2⟩ := own3 hO.out; have hst := Lib.hid (store3 hO.out s); clear hO)
      have HP : SubP w (.returned (.agg s.arr)) (((w3.setCell ⟨w.heap.size, 0, none⟩ s.v).setCell ⟨w.heap.size, 1, none⟩ (.int .i32 0)).setCell ⟨w.heap.size, 2, none⟩ (.int .i32 0)) := ⟨s, rfl, hg.out.kt hst.out.2 (by decide), ((hB1.out.setCell (Nat.le_refl _) _).setCell (Nat.le_refl _) _).setCell (Nat.le_refl _) _⟩
      exact bodyPost_ret (v := .agg s.arr) (by simp [results, Try.results22, go_sem, c0, c1, c2]) rfl HP
end Go.Proofs.Ytidmdcadejfjhaa

