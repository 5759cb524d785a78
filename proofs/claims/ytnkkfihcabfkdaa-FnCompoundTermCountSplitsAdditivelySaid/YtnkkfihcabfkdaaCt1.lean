/- Selectors that are built, nested: words. -/
import Derived.Test.YtnkkfihcabfkdaaAn
import Derived.Test.YtnkkfihcabfkdaaArg
import Derived.Test.YtnkkfihcabfkdaaMk
import Derived.Deep.DeepCutAuto
import Derived.WalkSpells
import Derived.Laws.OwnMore
import Derived.OwnWalk
set_option linter.unusedVariables false
set_option linter.unusedSimpArgs false
namespace Go.Proofs.Ytnkkfihcabfkdaa
open Go.RowKit
set_option maxRecDepth 100000
set_option maxHeartbeats 4000000
structure SubR where
  t : TypeId
  p : Value
  k : Nat
structure CpR where
  a : Option Addr
  n : Nat
  c : Nat
  ls : List SubR
structure CxR where
  a : Option Addr
  n : Nat
  c : Nat
  ls : List CpR
abbrev SubR.v (s : SubR) : Value := .iface s.t s.p
abbrev SubR.arr (s : SubR) : Array Value := #[s.v, .int .i32 0, .int .i32 0]
abbrev CpR.arr (s : CpR) : Array Value := #[.pointer none, .slice s.a s.n s.c, .slice none 0 0, .int .i32 0, .int .u8 0, .bool false]
abbrev CxR.arr (s : CxR) : Array Value := #[.slice s.a s.n s.c]
def SubR.cells (s : SubR) : List Value := s.arr.toList
def CpR.cells (s : CpR) : List Value := s.arr.toList
def CxR.cells (s : CxR) : List Value := s.arr.toList
theorem SubR.len (s : SubR) : s.cells.length = 3 := rfl
theorem CpR.len (s : CpR) : s.cells.length = 6 := rfl
theorem CxR.len (s : CxR) : s.cells.length = 1 := rfl
def cntS (l : List SubR) : Nat := (l.map SubR.k).sum
def cntP (l : List CpR) : Nat := (l.map fun r => cntS r.ls).sum
def cntX (l : List CxR) : Nat := (l.map fun r => cntP r.ls).sum
theorem SubR.one (t : SubR) : t.arr.all (·.oneCell') = true := by simp [Value.oneCell']
theorem CpR.one (t : CpR) : t.arr.all (·.oneCell') = true := by simp [Value.oneCell']
theorem CxR.one (t : CxR) : t.arr.all (·.oneCell') = true := by simp [Value.oneCell']
theorem info49 : (Try.prog.info? 49).map (fun i => (i.zero.map (·.cells), i.size, i.bytes)) = some (some #[.nilIface, .int .i32 0, .int .i32 0], 3, 24) := by kernel_rfl
theorem info33 : (Try.prog.info? 33).map (fun i => (i.zero.map (·.cells), i.size, i.bytes)) = some (some #[.pointer none, .slice none 0 0, .slice none 0 0, .int .i32 0, .int .u8 0, .bool false], 6, 72) := by kernel_rfl
theorem info41 : (Try.prog.info? 41).map (fun i => (i.zero.map (·.cells), i.size, i.bytes)) = some (some #[.slice none 0 0], 1, 24) := by kernel_rfl
/-- a slice of the call's own whose block is not in O -/
def OwnO (O : Nat → Prop) (w : World) (e : TypeId) (z : Nat) (v : Value) (n : Nat) (xs : List Value) : Prop := w.ownsRow 0 e z v n xs ∧ ∀ k, v.ownBlock = some k → ¬ O k
theorem OwnO.kp {O O' S : Nat → Prop} {w w' : World} {e : TypeId} {z : Nat} {v : Value} {n : Nat} {xs : List Value} (h : OwnO O w e z v n xs) (hk : Kp S w w') (hs : ∀ b, S b → O b) (ho : ∀ b, b < w.heap.size → O' b → O b) : OwnO O' w' e z v n xs :=
  ⟨hk.own h.1 (fun k e q => h.2 k e (hs k q)), fun k e q => h.2 k e (ho k (h.1.lt k e).2 q)⟩
/-- a subclass selector; nothing that it leads to lies in O -/
inductive G (O : Nat → Prop) (w : World) : SubR → Prop
  | leaf (s : SubR) (h1 : s.t = 53) (h2 : s.k = 1) : G O w s
  | list (s : SubR) (B n c : Nat) (a : Option Addr) (x y : ByteArray) (q : Int) (ls : List CxR) (h1 : s.t = 57) (h2 : s.p = .pointer (some ⟨B, 0, none⟩)) (h3 : ¬ O B) (h4 : w.heap[B]? = some (.cells #[.slice a n c, .string x, .string y, .int .u8 q] 62 (0, 0)))
      (h5 : OwnO O w 41 1 (.slice a n c) n (flat CxR.cells ls)) (h6 : ∀ r ∈ ls, OwnO O w 33 6 (.slice r.a r.n r.c) r.n (flat CpR.cells r.ls)) (h7 : ∀ r ∈ ls, ∀ p ∈ r.ls, OwnO O w 49 3 (.slice p.a p.n p.c) p.n (flat SubR.cells p.ls)) (h8 : ∀ r ∈ ls, ∀ p ∈ r.ls, ∀ s' ∈ p.ls, G O w s') (h9 : s.k = 1 + cntX ls) : G O w s
theorem G.kp {O O' S : Nat → Prop} {w w' : World} {s : SubR} (h : G O w s) (hk : Kp S w w') (hs : ∀ b, S b → O b) (ho : ∀ b, b < w.heap.size → O' b → O b) : G O' w' s := by
  induction h with
  | leaf s h1 h2 => exact .leaf s h1 h2
  | list s B n c a x y q ls h1 h2 h3 h4 h5 h6 h7 h8 h9 ih =>
    have hB := (Array.getElem?_eq_some_iff.1 h4).1
    refine .list s B n c a x y q ls h1 h2 (fun q => h3 (ho B hB q)) ?_ (h5.kp hk hs ho) (fun r hr => (h6 r hr).kp hk hs ho) (fun r hr p hp => (h7 r hr p hp).kp hk hs ho) ih h9
    rw [hk.block B hB (fun q => h3 (hs B q))]
    exact h4
def GP (O : Nat → Prop) (w : World) (p : CpR) : Prop := OwnO O w 49 3 (.slice p.a p.n p.c) p.n (flat SubR.cells p.ls) ∧ ∀ s ∈ p.ls, G O w s
def GX (O : Nat → Prop) (w : World) (r : CxR) : Prop := OwnO O w 33 6 (.slice r.a r.n r.c) r.n (flat CpR.cells r.ls) ∧ ∀ p ∈ r.ls, GP O w p
def GL (O : Nat → Prop) (w : World) (a : Option Addr) (n c : Nat) (ls : List CxR) : Prop := OwnO O w 41 1 (.slice a n c) n (flat CxR.cells ls) ∧ ∀ r ∈ ls, GX O w r
section
variable {O O' S : Nat → Prop} {w w' : World}
theorem GP.kp {p : CpR} (h : GP O w p) (hk : Kp S w w') (hs : ∀ b, S b → O b) (ho : ∀ b, b < w.heap.size → O' b → O b) : GP O' w' p := ⟨h.1.kp hk hs ho, fun s hm => (h.2 s hm).kp hk hs ho⟩
theorem GX.kp {r : CxR} (h : GX O w r) (hk : Kp S w w') (hs : ∀ b, S b → O b) (ho : ∀ b, b < w.heap.size → O' b → O b) : GX O' w' r := ⟨h.1.kp hk hs ho, fun s hm => (h.2 s hm).kp hk hs ho⟩
theorem GL.kp {a : Option Addr} {n c : Nat} {ls : List CxR} (h : GL O w a n c ls) (hk : Kp S w w') (hs : ∀ b, S b → O b) (ho : ∀ b, b < w.heap.size → O' b → O b) : GL O' w' a n c ls := ⟨h.1.kp hk hs ho, fun s hm => (h.2 s hm).kp hk hs ho⟩
theorem G.mk {a : Option Addr} {B n c : Nat} {x y : ByteArray} {q : Int} {ls : List CxR} (h : GL O w a n c ls) (h3 : ¬ O B) (h4 : w.heap[B]? = some (.cells #[.slice a n c, .string x, .string y, .int .u8 q] 62 (0, 0))) : G O w ⟨57, .pointer (some ⟨B, 0, none⟩), 1 + cntX ls⟩ :=
  .list _ B n c a x y q ls rfl rfl h3 h4 h.1 (fun r hr => (h.2 r hr).1) (fun r hr p hp => ((h.2 r hr).2 p hp).1) (fun r hr p hp s hs => ((h.2 r hr).2 p hp).2 s hs) rfl
end
theorem own_below {w w' : World} {B : Nat} {e : TypeId} {z : Nat} {v : Value} {n : Nat} {xs : List Value} (h : w.ownsRow B e z v n xs) (hb : Below w.heap.size w w') : w'.ownsRow B e z v n xs := (Kp.of (S := fun _ => False) hb).own h (fun _ _ q => q)
theorem own_ne {w : World} {B B' : Nat} {e e' : TypeId} {z z' : Nat} {v v' : Value} {n n' : Nat} {xs xs' : List Value} (h : w.ownsRow B e z v n xs) (h' : w.ownsRow B' e' z' v' n' xs') (he : e ≠ e') (k : Nat) (hk : v'.ownBlock = some k) : ¬ v.ownBlock = some k := by
  intro hk'
  rcases h.2 with ⟨rfl, _⟩ | ⟨g, cap, cur, rfl, _, hg, _⟩
  · simp [Value.ownBlock] at hk'
  · rcases h'.2 with ⟨rfl, _⟩ | ⟨g', cap', cur', rfl, _, hg', _⟩
    · simp [Value.ownBlock] at hk
    · simp [Value.ownBlock] at hk hk'
      subst hk; subst hk'
      rw [hg] at hg'
      injection hg' with hg'
      injection hg' with _ h2
      exact he h2
theorem heap2 (w : World) (o o' : Obj) : ((w.alloc o).alloc o').heap[w.heap.size + 1]? = some o' := by
  have := heap_alloc_new (w.alloc o) o'
  simpa using this
/-- a leaf -/
def LeafP (w : World) (e : Ending) (w' : World) : Prop := ∃ p, e = .returned (.agg (SubR.arr ⟨53, p, 1⟩)) ∧ Below w.heap.size w w'
theorem leaf9_c (w : World) : Calls Try.prog 9 #[] w (LeafP w) := by
  go_enter Try.func9, Try.ntmps9
  go_wp2
  exact bodyPost_ret (v := .agg (SubR.arr ⟨53, .pointer (some ⟨w.heap.size + 1, 0, none⟩), 1⟩)) (by simp [results, Try.results9, go_sem]) rfl ⟨_, rfl, (ba _ _).alloc (by simp) _⟩
def IsP (w : World) (a : Option Addr) (n c : Nat) (e : Ending) (w' : World) : Prop := ∃ B, e = .returned (.agg (SubR.arr ⟨57, .pointer (some ⟨B, 0, none⟩), 0⟩)) ∧ w.heap.size ≤ B ∧ w'.heap[B]? = some (.cells #[.slice a n c, .string ⟨#[]⟩, .string ⟨#[]⟩, .int .u8 2] 62 (0, 0)) ∧ Below w.heap.size w w'
theorem is11_c (a : Option Addr) (n c : Nat) (w : World) : Calls Try.prog 11 #[.slice a n c] w (IsP w a n c) := by
  go_enter Try.func11, Try.ntmps11
  go_wp2
  exact bodyPost_ret (v := .agg (SubR.arr ⟨57, .pointer (some ⟨w.heap.size + 1, 0, none⟩), 0⟩)) (by simp [results, Try.results11, go_sem]) rfl ⟨_, rfl, by omega, heap2 _ _ _, (ba _ _).alloc (by simp) _⟩
theorem cntS_add (l : List SubR) (s : SubR) : cntS (l ++ [s]) = cntS l + s.k := by simp [cntS]
theorem cntP_add (l : List CpR) (s : CpR) : cntP (l ++ [s]) = cntP l + cntS s.ls := by simp [cntP]
theorem cntX_add (l : List CxR) (s : CxR) : cntX (l ++ [s]) = cntX l + cntP s.ls := by simp [cntX]
/-- the cursor at Pc: n bytes at A, the next is number i -/
structure Cur (w : World) (Pc : Nat) (A : Option Addr) (n c i : Nat) : Prop where
  c0 : w.cell? ⟨Pc, 0, none⟩ = some (.slice A n c)
  c1 : w.cell? ⟨Pc, 1, none⟩ = some (.int .i64 i)
  f1 : w.frozen? ⟨Pc, 1, none⟩ = false
theorem Cur.kp {S : Nat → Prop} {w w' : World} {Pc : Nat} {A : Option Addr} {n c i : Nat} (h : Cur w Pc A n c i) (hk : Kp S w w') (hs : ¬ S Pc) : Cur w' Pc A n c i := ⟨hk.cell h.c0 hs, hk.cell h.c1 hs, hk.froz h.c1 h.f1 hs⟩
theorem Cur.next {w : World} {Pc : Nat} {A : Option Addr} {n c i : Nat} (h : Cur w Pc A n c i) : Cur (w.setCell ⟨Pc, 1, none⟩ (.int .i64 ((i : Int) + 1))) Pc A n c (i + 1) := ⟨by rw [co (by intro h; injection h; omega)]; exact h.c0, by rw [cs h.c1]; go_num, by rw [fz]; exact h.f1⟩
end Go.Proofs.Ytnkkfihcabfkdaa
