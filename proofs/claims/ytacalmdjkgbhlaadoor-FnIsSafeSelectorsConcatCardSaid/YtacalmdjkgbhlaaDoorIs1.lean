/- FnIsSafeSelectorsConcat: words, the small functions. -/
import Derived.Test.YtacalmdjkgbhlaaDoorAn
import Derived.Test.YtacalmdjkgbhlaaDoorArg
import Derived.Test.YtacalmdjkgbhlaaDoorMk
import Derived.Test.YtacalmdjkgbhlaaDoorSeg
import Derived.Deep.DeepCutAuto
import Derived.WalkSpells
import Derived.Laws.OwnMore
import Derived.OwnWalk
set_option linter.unusedVariables false
set_option linter.unusedSimpArgs false
namespace Go.Proofs.YtacalmdjkgbhlaaDoor
open Go.RowKit
theorem blk (x : Addr) (n : Nat) : (x.add n).block = x.block := by unfold Addr.add; split <;> rfl
/-- the cells outside O are kept -/
def Kc (O : Nat → Prop) (w w' : World) : Prop := ∀ a v, w.cell? a = some v → ¬ O a.block → w'.cell? a = some v
theorem Kc.of_below {O : Nat → Prop} {w w' : World} (h : Below w.heap.size w w') : Kc O w w' := fun a v hc _ => ac h hc
theorem Kc.of_only {O S : Nat → Prop} {w w' : World} (h : Only S w w') (hs : ∀ b, b < w.heap.size → S b → O b) : Kc O w w' := fun a v hc hn => h.keep hc (fun q => hn (hs _ (block_lt_of_cell hc) q))
theorem Kc.of_kp {O S : Nat → Prop} {w w' : World} (h : Kp S w w') (hs : ∀ b, b < w.heap.size → S b → O b) : Kc O w w' := fun a v hc hn => h.cell hc (fun q => hn (hs _ (block_lt_of_cell hc) q))
/-- what a subclass selector of the law's own is -/
structure Sb where
  k : Int
  m : Int
  nm : ByteArray
  ha : Bool
  el : Bool
structure Cq where
  ne : Int
  co : Int
  tk : Int
  pf : Bool
  tn : ByteArray
  ss : List Sb
abbrev SbL (s : Sb) : List Value := [.int .u8 s.k, .int .u8 s.m, .string s.nm, .bool s.ha, .bool s.el]
abbrev CqL (c : Cq) (a : Option Addr) (cc : Nat) : List Value := [.int .u8 c.ne, .int .u8 c.co, .int .u8 c.tk, .bool c.pf, .string c.tn, .slice a c.ss.length cc]
theorem Seg.lt {w : World} {b o : Nat} {v : Value} {vs : List Value} (h : Seg w b o (v :: vs)) : b < w.heap.size := block_lt_of_cell (h 0 v rfl)
theorem Seg.keep {O : Nat → Prop} {w w' : World} {b o : Nat} {vs : List Value} (h : Seg w b o vs) (hk : Kc O w w') (hx : ¬ O b) : Seg w' b o vs := fun j v hj => hk _ _ (h j v hj) hx
/-- rows of such things; no block of it lies in O -/
def RS (O : Nat → Prop) (w : World) (a : Option Addr) (ls : List Sb) : Prop := ∀ i s, ls[i]? = some s → ∃ b o, a = some ⟨b, o, none⟩ ∧ ¬ O b ∧ Seg w b (o + i * 5) (SbL s)
def RC (O : Nat → Prop) (w : World) (a : Option Addr) (ls : List Cq) : Prop := ∀ i c, ls[i]? = some c → ∃ b o a' c', a = some ⟨b, o, none⟩ ∧ ¬ O b ∧ Seg w b (o + i * 6) (CqL c a' c') ∧ (a' = none → c.ss = [] ∧ c' = 0) ∧ RS O w a' c.ss ∧ c.tn.size ≤ maxLen ∧ c.ss.length ≤ maxLen
def RG (O : Nat → Prop) (w : World) (a : Option Addr) (ls : List (List Cq)) : Prop := ∀ i g, ls[i]? = some g → ∃ b o a' c', a = some ⟨b, o, none⟩ ∧ ¬ O b ∧ w.cell? ⟨b, o + i, none⟩ = some (.slice a' g.length c') ∧ (a' = none → g = [] ∧ c' = 0) ∧ RC O w a' g ∧ g.length ≤ maxLen
theorem RS.keep {O O' : Nat → Prop} {w w' : World} {a : Option Addr} {ls : List Sb} (h : RS O w a ls) (hk : Kc O w w') (ho : ∀ b, b < w.heap.size → O' b → O b) : RS O' w' a ls := fun i s hi => by
  obtain ⟨b, o, hx, hn, hs⟩ := h i s hi
  exact ⟨b, o, hx, fun q => hn (ho _ (Seg.lt hs) q), Seg.keep hs hk hn⟩
theorem RC.keep {O O' : Nat → Prop} {w w' : World} {a : Option Addr} {ls : List Cq} (h : RC O w a ls) (hk : Kc O w w') (ho : ∀ b, b < w.heap.size → O' b → O b) : RC O' w' a ls := fun i s hi => by
  obtain ⟨b, o, a', c', hx, hn, hs, hz, hr, ht⟩ := h i s hi
  exact ⟨b, o, a', c', hx, fun q => hn (ho _ (Seg.lt hs) q), Seg.keep hs hk hn, hz, hr.keep hk ho, ht⟩
theorem RG.keep {O O' : Nat → Prop} {w w' : World} {a : Option Addr} {ls : List (List Cq)} (h : RG O w a ls) (hk : Kc O w w') (ho : ∀ b, b < w.heap.size → O' b → O b) : RG O' w' a ls := fun i s hi => by
  obtain ⟨b, o, a', c', hx, hn, hs, hz, hr, hm⟩ := h i s hi
  exact ⟨b, o, a', c', hx, fun q => hn (ho _ (block_lt_of_cell hs) q), hk _ _ hs hn, hz, hr.keep hk ho, hm⟩
theorem RG.after {O : Nat → Prop} {w w' : World} {a : Option Addr} {ls : List (List Cq)} (h : RG O w a ls) (hb : Below w.heap.size w w') : RG O w' a ls := h.keep (Kc.of_below hb) (fun _ _ q => q)
theorem RC.after {O : Nat → Prop} {w w' : World} {a : Option Addr} {ls : List Cq} (h : RC O w a ls) (hb : Below w.heap.size w w') : RC O w' a ls := h.keep (Kc.of_below hb) (fun _ _ q => q)
theorem RS.after {O : Nat → Prop} {w w' : World} {a : Option Addr} {ls : List Sb} (h : RS O w a ls) (hb : Below w.heap.size w w') : RS O w' a ls := h.keep (Kc.of_below hb) (fun _ _ q => q)
/-- the words that are safe everywhere -/
def isW (s : ByteArray) : Bool := (s.toList == [97, 99, 116, 105, 118, 101]) || (s.toList == [102, 105, 114, 115, 116, 45, 99, 104, 105, 108, 100]) || (s.toList == [104, 111, 118, 101, 114]) || (s.toList == [108, 105, 110, 107]) || (s.toList == [118, 105, 115, 105, 116, 101, 100])
def safeS (s : Sb) : Bool := if s.k = 0 then s.m == 0 else if s.k = 1 then !s.ha && !s.el && isW s.nm else if s.k = 2 then false else true
def safeT (kn : ByteArray → Bool) (c : Cq) : Bool := if c.tk = 0 then true else !c.pf && !(c.tk == 1 && !kn c.tn)
def safeC (kn : ByteArray → Bool) (c : Cq) : Bool := c.ne == 0 && c.co == 0 && safeT kn c && c.ss.all safeS
def safeG (kn : ByteArray → Bool) (g : List (List Cq)) : Bool := g.all fun r => r.all (safeC kn)
/-- a subclass selector as it is built -/
structure SubR where
  t : TypeId
  p : Value
  d : Bool
abbrev SubR.arr (s : SubR) : Array Value := #[.iface s.t s.p, .int .i32 0, .int .i32 0]
def SubR.cells (s : SubR) : List Value := s.arr.toList
theorem SubR.len (s : SubR) : s.cells.length = 3 := rfl
def GSub (O : Nat → Prop) (w : World) (s : SubR) : Prop :=
  (∃ B m, (s.t = 61 ∧ s.p = .pointer (some ⟨B, 0, none⟩)) ∧ ¬ O B ∧ w.cell? ⟨B, 7, none⟩ = some (.int .u8 m) ∧ s.d = (m == 0)) ∨
  (∃ B nm x el, (s.t = 64 ∧ s.p = .pointer (some ⟨B, 0, none⟩)) ∧ ¬ O B ∧ w.cell? ⟨B, 0, none⟩ = some (.string nm) ∧ w.cell? ⟨B, 1, none⟩ = some (.slice x 0 0) ∧ w.cell? ⟨B, 2, none⟩ = some (.bool el) ∧ s.d = (x.isNone && !el && isW nm)) ∨
  (s.t = 68 ∧ s.d = false) ∨ (s.t = 77 ∧ s.d = true)
theorem GSub.keep {O O' : Nat → Prop} {w w' : World} {s : SubR} (h : GSub O w s) (hk : Kc O w w') (ho : ∀ b, b < w.heap.size → O' b → O b) : GSub O' w' s := by
  rcases h with ⟨B, m, h1, hn, h2, h3⟩ | ⟨B, nm, x, el, h1, hn, h2, h3, h4, h5⟩ | h | h
  · exact .inl ⟨B, m, h1, fun q => hn (ho _ (block_lt_of_cell h2) q), hk _ _ h2 hn, h3⟩
  · exact .inr (.inl ⟨B, nm, x, el, h1, fun q => hn (ho _ (block_lt_of_cell h2) q), hk _ _ h2 hn, hk _ _ h3 hn, hk _ _ h4 hn, h5⟩)
  · exact .inr (.inr (.inl h))
  · exact .inr (.inr (.inr h))
def RSub (O : Nat → Prop) (w : World) (a : Option Addr) (ls : List SubR) : Prop := ∀ i s, ls[i]? = some s → ∃ g, a = some ⟨g, 0, none⟩ ∧ ¬ O g ∧ Seg w g (i * 3) s.cells ∧ GSub O w s
theorem RSub.keep {O O' : Nat → Prop} {w w' : World} {a : Option Addr} {ls : List SubR} (h : RSub O w a ls) (hk : Kc O w w') (ho : ∀ b, b < w.heap.size → O' b → O b) : RSub O' w' a ls := fun i s hi => by
  obtain ⟨g, hx, hn, hs, hg⟩ := h i s hi
  exact ⟨g, hx, fun q => hn (ho _ (Seg.lt hs) q), Seg.keep hs hk hn, hg.keep hk ho⟩
/-- a type selector -/
def GTs (kn : ByteArray → Bool) (O : Nat → Prop) (w : World) (tp : Option Addr) (td : Bool) : Prop :=
  (tp = none ∧ td = true) ∨ ∃ B px tx k, tp = some ⟨B, 0, none⟩ ∧ ¬ O B ∧ w.cell? ⟨B, 0, none⟩ = some (.pointer px) ∧ w.cell? ⟨B, 1, none⟩ = some (.string tx) ∧ w.cell? ⟨B, 4, none⟩ = some (.int .u8 k) ∧ td = (px.isNone && !(k == 29 && !kn tx)) ∧ tx.size ≤ maxLen
theorem GTs.keep {kn : ByteArray → Bool} {O O' : Nat → Prop} {w w' : World} {tp : Option Addr} {td : Bool} (h : GTs kn O w tp td) (hk : Kc O w w') (ho : ∀ b, b < w.heap.size → O' b → O b) : GTs kn O' w' tp td := by
  rcases h with h | ⟨B, px, tx, k, h1, hn, h2, h3, h4, h5, h6⟩
  · exact .inl h
  · exact .inr ⟨B, px, tx, k, h1, fun q => hn (ho _ (block_lt_of_cell h2) q), hk _ _ h2 hn, hk _ _ h3 hn, hk _ _ h4 hn, h5, h6⟩
/-- a compound selector as it is built -/
structure CpR where
  tp : Option Addr
  td : Bool
  a : Option Addr
  c : Nat
  ls : List SubR
  nx : Option Addr
  nn : Nat
  nc : Nat
  cb : Int
abbrev selL (tp sb nl : Value) (cb : Int) : List Value := [tp, sb, nl, .int .i32 0, .int .u8 cb, .bool false]
abbrev CpR.arr (r : CpR) : Array Value := #[.pointer r.tp, .slice r.a r.ls.length r.c, .slice r.nx r.nn r.nc, .int .i32 0, .int .u8 r.cb, .bool false]
def CpR.cells (r : CpR) : List Value := r.arr.toList
theorem CpR.len (r : CpR) : r.cells.length = 6 := rfl
def CpR.safe (r : CpR) : Bool := r.nn == 0 && r.cb == 0 && r.td && r.ls.all SubR.d
def GCp (kn : ByteArray → Bool) (O : Nat → Prop) (w : World) (r : CpR) : Prop := GTs kn O w r.tp r.td ∧ RSub O w r.a r.ls
theorem GCp.keep {kn : ByteArray → Bool} {O O' : Nat → Prop} {w w' : World} {r : CpR} (h : GCp kn O w r) (hk : Kc O w w') (ho : ∀ b, b < w.heap.size → O' b → O b) : GCp kn O' w' r := ⟨h.1.keep hk ho, h.2.keep hk ho⟩
def RCp (kn : ByteArray → Bool) (O : Nat → Prop) (w : World) (a : Option Addr) (ls : List CpR) : Prop := ∀ i s, ls[i]? = some s → ∃ g, a = some ⟨g, 0, none⟩ ∧ ¬ O g ∧ Seg w g (i * 6) s.cells ∧ GCp kn O w s ∧ s.ls.length ≤ maxLen
theorem RCp.keep {kn : ByteArray → Bool} {O O' : Nat → Prop} {w w' : World} {a : Option Addr} {ls : List CpR} (h : RCp kn O w a ls) (hk : Kc O w w') (ho : ∀ b, b < w.heap.size → O' b → O b) : RCp kn O' w' a ls := fun i s hi => by
  obtain ⟨g, hx, hn, hs, hg, hm⟩ := h i s hi
  exact ⟨g, hx, fun q => hn (ho _ (Seg.lt hs) q), Seg.keep hs hk hn, hg.keep hk ho, hm⟩
structure CxR where
  a : Option Addr
  c : Nat
  ls : List CpR
abbrev CxR.arr (r : CxR) : Array Value := #[.slice r.a r.ls.length r.c]
def CxR.cells (r : CxR) : List Value := r.arr.toList
theorem CxR.len (r : CxR) : r.cells.length = 1 := rfl
def CxR.safe (r : CxR) : Bool := r.ls.all CpR.safe
def RCx (kn : ByteArray → Bool) (O : Nat → Prop) (w : World) (a : Option Addr) (ls : List CxR) : Prop := ∀ i s, ls[i]? = some s → ∃ g, a = some ⟨g, 0, none⟩ ∧ ¬ O g ∧ w.cell? ⟨g, i, none⟩ = some (.slice s.a s.ls.length s.c) ∧ RCp kn O w s.a s.ls ∧ s.ls.length ≤ maxLen
theorem RCx.keep {kn : ByteArray → Bool} {O O' : Nat → Prop} {w w' : World} {a : Option Addr} {ls : List CxR} (h : RCx kn O w a ls) (hk : Kc O w w') (ho : ∀ b, b < w.heap.size → O' b → O b) : RCx kn O' w' a ls := fun i s hi => by
  obtain ⟨g, hx, hn, hs, hg, hm⟩ := h i s hi
  exact ⟨g, hx, fun q => hn (ho _ (block_lt_of_cell hs) q), hk _ _ hs hn, hg.keep hk ho, hm⟩
theorem RCx.after {kn : ByteArray → Bool} {O : Nat → Prop} {w w' : World} {a : Option Addr} {ls : List CxR} (h : RCx kn O w a ls) (hb : Below w.heap.size w w') : RCx kn O w' a ls := h.keep (Kc.of_below hb) (fun _ _ q => q)
theorem RCp.after {kn : ByteArray → Bool} {O : Nat → Prop} {w w' : World} {a : Option Addr} {ls : List CpR} (h : RCp kn O w a ls) (hb : Below w.heap.size w w') : RCp kn O w' a ls := h.keep (Kc.of_below hb) (fun _ _ q => q)
theorem RSub.after {O : Nat → Prop} {w w' : World} {a : Option Addr} {ls : List SubR} (h : RSub O w a ls) (hb : Below w.heap.size w w') : RSub O w' a ls := h.keep (Kc.of_below hb) (fun _ _ q => q)
theorem GCp.after {kn : ByteArray → Bool} {O : Nat → Prop} {w w' : World} {r : CpR} (h : GCp kn O w r) (hb : Below w.heap.size w w') : GCp kn O w' r := h.keep (Kc.of_below hb) (fun _ _ q => q)
theorem GSub.after {O : Nat → Prop} {w w' : World} {r : SubR} (h : GSub O w r) (hb : Below w.heap.size w w') : GSub O w' r := h.keep (Kc.of_below hb) (fun _ _ q => q)
/-- what a call that makes a subclass selector answers -/
def SubP (d : Bool) (w : World) (e : Ending) (w' : World) : Prop := ∃ s : SubR, e = .returned (.agg s.arr) ∧ s.d = d ∧ GSub (fun b => b < w.heap.size) w' s ∧ Below w.heap.size w w'
theorem cellN (w : World) (o : Obj) (vs : List Value) (ty : TypeId) (j : Nat) (v : Value) (h : vs[j]? = some v) : ((w.alloc o).alloc (.cells vs.toArray ty)).cell? ⟨w.heap.size + 1, j, none⟩ = some v := by
  have := Seg.new (w.alloc o) vs ty j v h
  simpa using this
set_option maxRecDepth 100000 in
set_option maxHeartbeats 4000000 in
theorem attr_c (m : Int) (w : World) : Calls Tryd.prog 11 #[.int .u8 m] w (SubP (m == 0) w) := by
  go_enter Tryd.func11, Tryd.ntmps11
  go_wp2
  exact bodyPost_ret (v := .agg (SubR.arr ⟨61, .pointer (some ⟨w.heap.size + 1, 0, none⟩), m == 0⟩)) (by simp [results, Tryd.results11, go_sem]) rfl ⟨_, rfl, rfl, .inl ⟨_, m, ⟨rfl, rfl⟩, (by show ¬ _ < _; omega), by simp [go_sem], rfl⟩, by first | exact (ba _ _).alloc (by simp) _ | exact ((ba _ _).alloc (by simp) _).setCell (Nat.le_refl _) _⟩
set_option maxRecDepth 100000 in
set_option maxHeartbeats 4000000 in
theorem pseudo_c (nm : ByteArray) (x : Option Addr) (el : Bool) (w : World) : Calls Tryd.prog 12 #[.string nm, .slice x 0 0, .bool el] w (SubP (x.isNone && !el && isW nm) w) := by
  go_enter Tryd.func12, Tryd.ntmps12
  go_wp2
  exact bodyPost_ret (v := .agg (SubR.arr ⟨64, .pointer (some ⟨w.heap.size + 1, 0, none⟩), x.isNone && !el && isW nm⟩)) (by simp [results, Tryd.results12, go_sem]) rfl ⟨_, rfl, rfl, .inr (.inl ⟨_, nm, x, el, ⟨rfl, rfl⟩, (by show ¬ _ < _; omega), by simp [go_sem], by simp [go_sem], by simp [go_sem], rfl⟩), (ba _ _).alloc (by simp) _⟩
set_option maxRecDepth 100000 in
set_option maxHeartbeats 4000000 in
theorem list_c (w : World) : Calls Tryd.prog 13 #[] w (SubP false w) := by
  go_enter Tryd.func13, Tryd.ntmps13
  go_wp2
  exact bodyPost_ret (v := .agg (SubR.arr ⟨68, .pointer (some ⟨w.heap.size + 1, 0, none⟩), false⟩)) (by simp [results, Tryd.results13, go_sem]) rfl ⟨_, rfl, rfl, .inr (.inr (.inl ⟨rfl, rfl⟩)), (ba _ _).alloc (by simp) _⟩
set_option maxRecDepth 100000 in
set_option maxHeartbeats 4000000 in
theorem class_c (w : World) : Calls Tryd.prog 14 #[] w (SubP true w) := by
  go_enter Tryd.func14, Tryd.ntmps14
  go_wp2
  exact bodyPost_ret (v := .agg (SubR.arr ⟨77, .pointer (some ⟨w.heap.size + 1, 0, none⟩), true⟩)) (by simp [results, Tryd.results14, go_sem]) rfl ⟨_, rfl, rfl, .inr (.inr (.inr ⟨rfl, rfl⟩)), (ba _ _).alloc (by simp) _⟩
end Go.Proofs.YtacalmdjkgbhlaaDoor
