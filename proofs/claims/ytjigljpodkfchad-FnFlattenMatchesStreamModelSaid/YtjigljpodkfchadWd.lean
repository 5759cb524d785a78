/- Words on memory: cells kept, blocks that may be written, lists of css tokens in a block. -/
import Derived.Test.YtjigljpodkfchadRows
import Derived.Test.YtjigljpodkfchadST
import Derived.WalkKit
import Derived.ProofKit
import Derived.OpenShut
import Derived.ShutString
import Derived.ChangeOld
import Derived.Below
import Derived.Outline
import Derived.Lib.Hide
import Derived.Laws.MakeOwn
import Derived.Deep.Cut
import Derived.LoopTactic
set_option linter.unusedVariables false
set_option linter.unusedSimpArgs false
namespace Go.Proofs.Ytjigljpodkfchad
open Go.RowKit
theorem al {w : World} {a : Addr} {v : Value} (h : w.cell? a = some v) (o : Obj) : (w.alloc o).cell? a = some v := by
  have hb : Below w.heap.size w (w.alloc o) := (Below.refl _ _).alloc (Nat.le_refl _) _
  rw [hb.cell (block_lt_of_cell h)]; exact h
theorem ac {W w' : World} (hb : Below W.heap.size W w') {a : Addr} {v : Value} (hc : W.cell? a = some v) : w'.cell? a = some v := by rw [hb.cell (block_lt_of_cell hc)]; exact hc
theorem af {W w' : World} (hb : Below W.heap.size W w') {a : Addr} {v : Value} (hc : W.cell? a = some v) (hf : W.frozen? a = false) : w'.frozen? a = false := by rw [hb.frozen (block_lt_of_cell hc)]; exact hf
theorem cs {w : World} {p : Addr} {u v : Value} (h : w.cell? p = some u) : (w.setCell p v).cell? p = some v := by simp [go_sem, h]
theorem co {w : World} {p q : Addr} {v : Value} (h : p ≠ q) : (w.setCell p v).cell? q = w.cell? q := World.cell?_setCell_other w p q v h
theorem fz {w : World} {p q : Addr} {v : Value} : (w.setCell p v).frozen? q = w.frozen? q := by simp [go_sem]
theorem bdN {B : Nat} {a w : World} (h : Below B a w) (n : Nat) : Below B a (w.drewN n) := ⟨h.os, h.tape, h.output, h.size, h.block⟩
theorem ba (w : World) (o : Obj) : Below w.heap.size w (w.alloc o) := (Below.refl _ _).alloc (Nat.le_refl _) _
/-- a slice of integers, read -/
def Row (k : IntKind) (w : World) (A : Option Addr) (n : Nat) (f : Nat → Int) : Prop := ∀ i, i < n → ∃ x, A = some x ∧ w.cell? (x.add i) = some (.int k (f i))
theorem Row.after {k : IntKind} {w w' : World} {A : Option Addr} {n : Nat} {f : Nat → Int} (h : Row k w A n f) (hb : Below w.heap.size w w') : Row k w' A n f := fun i hi => by
  obtain ⟨x, e, hc⟩ := h i hi
  exact ⟨x, e, ac hb hc⟩
/-- N cells that may be written -/
def Room (w : World) (T N : Nat) : Prop := ∀ j, j < N → ∃ v, w.cell? ⟨T, j, none⟩ = some v ∧ w.frozen? ⟨T, j, none⟩ = false
theorem Room.after {w w' : World} {T N : Nat} (h : Room w T N) (hb : Below w.heap.size w w') : Room w' T N := fun j hj => by
  obtain ⟨v, h1, h2⟩ := h j hj
  exact ⟨v, ac hb h1, af hb h1 h2⟩
theorem Room.set {w : World} {T N : Nat} (h : Room w T N) (j : Nat) (v : Value) : Room (w.setCell ⟨T, j, none⟩ v) T N := fun i hi => by
  obtain ⟨u, h1, h2⟩ := h i hi
  by_cases e : j = i
  · subst e; exact ⟨v, cs h1, by rw [fz]; exact h2⟩
  · exact ⟨u, by rw [co (by simp [e])]; exact h1, by rw [fz]; exact h2⟩
theorem Room.made (w : World) (z : Array Value) (N : Nat) (t : TypeId) : Room (w.alloc (.cells (madeCells z N) t)) w.heap.size N := fun j hj => by
  refine ⟨(madeCells z N)[j]'(by rw [size_madeCells]; exact hj), ?_, ?_⟩
  · simp [go_sem, size_madeCells, hj]
  · simp [go_sem]
theorem Room.setA {w : World} {T N : Nat} (h : Room w T N) (p : Addr) (v : Value) : Room (w.setCell p v) T N := fun i hi => by
  obtain ⟨u, h1, h2⟩ := h i hi
  by_cases e : p = ⟨T, i, none⟩
  · subst e; exact ⟨v, cs h1, by rw [fz]; exact h2⟩
  · exact ⟨u, by rw [co e]; exact h1, by rw [fz]; exact h2⟩
theorem Room.new (w : World) (cs : Array Value) (t : TypeId) : Room (w.alloc (.cells cs t)) w.heap.size cs.size := fun j hj => ⟨cs[j], by simp [go_sem, hj], by simp [go_sem]⟩
theorem Room.lt {w : World} {T N : Nat} (h : Room w T N) (hN : 0 < N) : T < w.heap.size := by
  obtain ⟨v, h1, -⟩ := h 0 hN
  exact block_lt_of_cell h1
/-- only blocks in S (and new ones) have turned -/
structure Only (S : Nat → Prop) (w w' : World) : Prop where
  size : w.heap.size ≤ w'.heap.size
  below : ∀ B, B ≤ w.heap.size → (∀ b, S b → B ≤ b) → Below B w w'
  cell : ∀ p : Addr, p.block < w.heap.size → ¬ S p.block → w'.cell? p = w.cell? p
  froz : ∀ p : Addr, p.block < w.heap.size → w'.frozen? p = w.frozen? p
  rooms : ∀ T N, Room w T N → Room w' T N
  obj : ∀ b, b < w.heap.size → ¬ S b → w'.heap[b]? = w.heap[b]?
theorem Only.of {S : Nat → Prop} {w w' : World} (h : Below w.heap.size w w') : Only S w w' := ⟨h.size, fun B hB _ => h.mono hB, fun p hp _ => h.cell hp, fun p hp => h.frozen hp, fun T N r => r.after h, fun b hb _ => h.block b hb⟩
theorem Only.refl {S : Nat → Prop} (w : World) : Only S w w := Only.of (Below.refl _ _)
theorem Only.trans {S : Nat → Prop} {w w1 w2 : World} (h : Only S w w1) (h' : Only S w1 w2) : Only S w w2 :=
  ⟨Nat.le_trans h.size h'.size, fun B hB hS => (h.below B hB hS).trans (h'.below B (Nat.le_trans hB h.size) hS), fun p hp hs => (h'.cell p (Nat.lt_of_lt_of_le hp h.size) hs).trans (h.cell p hp hs), fun p hp => (h'.froz p (Nat.lt_of_lt_of_le hp h.size)).trans (h.froz p hp), fun T N r => h'.rooms T N (h.rooms T N r), fun b hb hs => (h'.obj b (Nat.lt_of_lt_of_le hb h.size) hs).trans (h.obj b hb hs)⟩
theorem Only.set {S : Nat → Prop} {w w' : World} (h : Only S w w') (p : Addr) (v : Value) (hp : S p.block) : Only S w (w'.setCell p v) :=
  ⟨by simpa [World.setCell] using h.size, fun B hB hS => (h.below B hB hS).setCell (hS _ hp) _, fun q hq hs => by rw [co (by rintro rfl; exact hs hp)]; exact h.cell q hq hs, fun q hq => by rw [fz]; exact h.froz q hq, fun T N r => (h.rooms T N r).setA p v, fun b hb hs => (Below.heap_setCell _ _ _ _ (by intro e; exact hs (by first | exact e ▸ hp | exact e.symm ▸ hp))).trans (h.obj b hb hs)⟩
theorem Only.wide {S S' : Nat → Prop} {w w' : World} (h : Only S w w') (hs : ∀ b, S b → S' b) : Only S' w w' := ⟨h.size, fun B hB hS => h.below B hB (fun b hb => hS b (hs b hb)), fun p hp hn => h.cell p hp (fun q => hn (hs _ q)), h.froz, h.rooms, fun b hb hn => h.obj b hb (fun q => hn (hs _ q))⟩
theorem Only.drewN {S : Nat → Prop} {w w' : World} (h : Only S w w') (n : Nat) : Only S w (w'.drewN n) := h.trans (Only.of (bdN (Below.refl _ _) n))
theorem Only.keep {S : Nat → Prop} {w w' : World} (h : Only S w w') {a : Addr} {v : Value} (hc : w.cell? a = some v) (hs : ¬ S a.block) : w'.cell? a = some v := by rw [h.cell a (block_lt_of_cell hc) hs]; exact hc
theorem Only.room {S : Nat → Prop} {w w' : World} (h : Only S w w') {T N : Nat} (r : Room w T N) (hs : ¬ S T) : Room w' T N := fun j hj => by
  obtain ⟨v, h1, h2⟩ := r j hj
  exact ⟨v, h.keep h1 hs, by rw [h.froz _ (block_lt_of_cell h1)]; exact h2⟩
/-- make([]T, n) at a length that is known to be small -/
theorem make_any {P : Program} {t e : TypeId} {z b : Nat} (hu : P.underlying t = some (.slice e)) (hinfo : (P.info? e).map (fun i => (i.zero.isSome, i.size, i.bytes)) = some (true, z, b)) (n : Nat) (hn : n ≤ 1048576) (hb : b ≤ 100000000) :
    ∃ zs : Array Value, ∀ W : World, (Instr.makeSlice t (.int .i64 n) (.int .i64 n)).run P W = .ok (.slice (some ⟨W.heap.size, 0, none⟩) n n) (W.alloc (.cells (madeCells zs (n * z)) e)) := by
  cases hi : P.info? e with
  | none => rw [hi] at hinfo; cases hinfo
  | some i =>
    rw [hi] at hinfo
    simp only [Option.map_some, Option.some.injEq, Prod.mk.injEq] at hinfo
    obtain ⟨h1, h2, h3⟩ := hinfo
    cases hz : i.zero with
    | none => rw [hz] at h1; cases h1
    | some v =>
      refine ⟨v.cells, fun W => ?_⟩
      have hm : b * n ≤ 100000000 * 1048576 := Nat.mul_le_mul hb hn
      have := run_make (P := P) W t e i v hu hi hz .i64 .i64 n n (by omega) (by omega) (by rw [h3]; omega) (by omega)
      rw [h2] at this
      simpa using this
/-- a css token -/
structure Tk where
  ch : Value
  tx : ByteArray
  lo : Int
  pl : Int
  uo : Int
  kd : Int
  ws : Int
abbrev Tk.val (t : Tk) : Value := .agg #[t.ch, .string t.tx, .int .i32 t.lo, .int .u32 t.pl, .int .u16 t.uo, .int .u8 t.kd, .int .u8 t.ws]
/-- the token t lies at T, o -/
structure TAt (w : World) (T o : Nat) (t : Tk) : Prop where
  c0 : w.cell? ⟨T, o, none⟩ = some t.ch
  c1 : w.cell? ⟨T, o + 1, none⟩ = some (.string t.tx)
  c2 : w.cell? ⟨T, o + 2, none⟩ = some (.int .i32 t.lo)
  c3 : w.cell? ⟨T, o + 3, none⟩ = some (.int .u32 t.pl)
  c4 : w.cell? ⟨T, o + 4, none⟩ = some (.int .u16 t.uo)
  c5 : w.cell? ⟨T, o + 5, none⟩ = some (.int .u8 t.kd)
  c6 : w.cell? ⟨T, o + 6, none⟩ = some (.int .u8 t.ws)
theorem TAt.keep {w w' : World} {T o : Nat} {t : Tk} (h : TAt w T o t) (hk : ∀ j, j < 7 → w'.cell? ⟨T, o + j, none⟩ = w.cell? ⟨T, o + j, none⟩) : TAt w' T o t :=
  ⟨(hk 0 (by omega)).trans h.c0, (hk 1 (by omega)).trans h.c1, (hk 2 (by omega)).trans h.c2, (hk 3 (by omega)).trans h.c3, (hk 4 (by omega)).trans h.c4, (hk 5 (by omega)).trans h.c5, (hk 6 (by omega)).trans h.c6⟩
theorem TAt.after {w w' : World} {T o : Nat} {t : Tk} (h : TAt w T o t) (hb : Below w.heap.size w w') : TAt w' T o t :=
  ⟨ac hb h.c0, ac hb h.c1, ac hb h.c2, ac hb h.c3, ac hb h.c4, ac hb h.c5, ac hb h.c6⟩
theorem TAt.far {w : World} {T o : Nat} {t : Tk} {p : Addr} {v : Value} (h : TAt w T o t) (hp : p.block ≠ T ∨ p.off < o ∨ o + 7 ≤ p.off) : TAt (w.setCell p v) T o t :=
  h.keep fun j hj => co (by rintro rfl; simp at hp; omega)
/-- storing a token -/
theorem TAt.made {w : World} {T o : Nat} (t : Tk) {v0 v1 v2 v3 v4 v5 v6 : Value} (r0 : w.cell? ⟨T, o, none⟩ = some v0) (r1 : w.cell? ⟨T, o + 1, none⟩ = some v1) (r2 : w.cell? ⟨T, o + 2, none⟩ = some v2) (r3 : w.cell? ⟨T, o + 3, none⟩ = some v3) (r4 : w.cell? ⟨T, o + 4, none⟩ = some v4) (r5 : w.cell? ⟨T, o + 5, none⟩ = some v5) (r6 : w.cell? ⟨T, o + 6, none⟩ = some v6) :
    TAt (((((((w.setCell ⟨T, o, none⟩ t.ch).setCell ⟨T, o + 1, none⟩ (.string t.tx)).setCell ⟨T, o + 2, none⟩ (.int .i32 t.lo)).setCell ⟨T, o + 3, none⟩ (.int .u32 t.pl)).setCell ⟨T, o + 4, none⟩ (.int .u16 t.uo)).setCell ⟨T, o + 5, none⟩ (.int .u8 t.kd)).setCell ⟨T, o + 6, none⟩ (.int .u8 t.ws)) T o t := by
  have ne : ∀ {i j : Nat}, i ≠ j → (⟨T, i, none⟩ : Addr) ≠ ⟨T, j, none⟩ := fun h e => h (by injection e)
  exact ⟨by (repeat rw [co (ne (by omega))]); exact cs (u := v0) (by (repeat rw [co (ne (by omega))]); exact r0), by (repeat rw [co (ne (by omega))]); exact cs (u := v1) (by (repeat rw [co (ne (by omega))]); exact r1), by (repeat rw [co (ne (by omega))]); exact cs (u := v2) (by (repeat rw [co (ne (by omega))]); exact r2), by (repeat rw [co (ne (by omega))]); exact cs (u := v3) (by (repeat rw [co (ne (by omega))]); exact r3), by (repeat rw [co (ne (by omega))]); exact cs (u := v4) (by (repeat rw [co (ne (by omega))]); exact r4), by (repeat rw [co (ne (by omega))]); exact cs (u := v5) (by (repeat rw [co (ne (by omega))]); exact r5), by (repeat rw [co (ne (by omega))]); exact cs (u := v6) (by (repeat rw [co (ne (by omega))]); exact r6)⟩
/-- the first n tokens of the slice at A -/
def Toks (w : World) (A : Option Addr) (n : Nat) (F : Nat → Tk) : Prop := ∀ i, i < n → ∃ T o, A = some ⟨T, o, none⟩ ∧ TAt w T (o + i * 7) (F i)
theorem Toks.after {w w' : World} {A : Option Addr} {n : Nat} {F : Nat → Tk} (h : Toks w A n F) (hb : Below w.heap.size w w') : Toks w' A n F := fun i hi => by
  obtain ⟨T, o, e, hc⟩ := h i hi
  exact ⟨T, o, e, hc.after hb⟩
end Go.Proofs.Ytjigljpodkfchad
