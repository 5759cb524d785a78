/- FnSubstituteAmpersandsClosedForm: words on the arguments and on what is built, the small builders. -/
import Derived.Test.YtjigljpodkfchaaFmtAn
import Derived.Test.YtjigljpodkfchaaFmtArg
import Derived.Test.YtjigljpodkfchaaFmtMk
import Derived.Test.YtjigljpodkfchaaFmtSeg
import Derived.Test.YtjigljpodkfchaaFmtRl
import Derived.Deep.DeepCutAuto
import Derived.WalkSpells
import Derived.Laws.OwnMore
import Derived.OwnWalk
set_option linter.unusedVariables false
set_option linter.unusedSimpArgs false
namespace Go.Proofs.YtjigljpodkfchaaFmt
open Go.RowKit
set_option maxRecDepth 100000
set_option maxHeartbeats 4000000
def RetV (v : Value) (w : World) (e : Ending) (w' : World) : Prop := e = .returned v ∧ Below w.heap.size w w'
/-- the cells outside O are kept -/
def Kc (O : Nat → Prop) (w w' : World) : Prop := ∀ a v, w.cell? a = some v → ¬ O a.block → w'.cell? a = some v
theorem Kc.of_below {O : Nat → Prop} {w w' : World} (h : Below w.heap.size w w') : Kc O w w' := fun a v hc _ => ac h hc
theorem Kc.of_only {O S : Nat → Prop} {w w' : World} (h : Only S w w') (hs : ∀ b, b < w.heap.size → S b → O b) : Kc O w w' := fun a v hc hn => h.keep hc (fun q => hn (hs _ (block_lt_of_cell hc) q))
theorem Kc.of_kp {O S : Nat → Prop} {w w' : World} (h : Kp S w w') (hs : ∀ b, b < w.heap.size → S b → O b) : Kc O w w' := fun a v hc hn => h.cell hc (fun q => hn (hs _ (block_lt_of_cell hc) q))
theorem Seg.lt {w : World} {b o : Nat} {v : Value} {vs : List Value} (h : Seg w b o (v :: vs)) : b < w.heap.size := block_lt_of_cell (h 0 v rfl)
theorem Seg.keep {O : Nat → Prop} {w w' : World} {b o : Nat} {vs : List Value} (h : Seg w b o vs) (hk : Kc O w w') (hx : ¬ O b) : Seg w' b o vs := fun j v hj => hk _ _ (h j v hj) hx
theorem Seg.set {w : World} {b : Nat} {vs : List Value} (h : Seg w b 0 vs) (j : Nat) (v : Value) (hj : j < vs.length) : Seg (w.setCell ⟨b, j, none⟩ v) b 0 (vs.set j v) := fun i u hi => by
  rw [List.getElem?_set] at hi
  rw [Nat.zero_add]
  by_cases e : j = i
  · subst e
    rw [if_pos rfl, if_pos hj] at hi
    have := h j vs[j] (List.getElem?_eq_getElem hj)
    rw [Nat.zero_add] at this
    rw [cs this]
    exact hi
  · rw [if_neg e] at hi
    have := h i u hi
    rw [Nat.zero_add] at this
    rw [co (by intro q; injection q; omega)]
    exact this
theorem segs6 {w : World} {b o : Nat} {v0 v1 v2 v3 v4 v5 : Value} (h : Seg w b o [v0, v1, v2, v3, v4, v5]) : w.cell? ⟨b, o, none⟩ = some v0 ∧ w.cell? ⟨b, o + 1, none⟩ = some v1 ∧ w.cell? ⟨b, o + 2, none⟩ = some v2 ∧ w.cell? ⟨b, o + 3, none⟩ = some v3 ∧ w.cell? ⟨b, o + 4, none⟩ = some v4 ∧ w.cell? ⟨b, o + 5, none⟩ = some v5 :=
  ⟨by simpa using h 0 _ rfl, h 1 _ rfl, h 2 _ rfl, h 3 _ rfl, h 4 _ rfl, h 5 _ rfl⟩
theorem segs3 {w : World} {b o : Nat} {v0 v1 v2 : Value} (h : Seg w b o [v0, v1, v2]) : w.cell? ⟨b, o, none⟩ = some v0 ∧ w.cell? ⟨b, o + 1, none⟩ = some v1 ∧ w.cell? ⟨b, o + 2, none⟩ = some v2 :=
  ⟨by simpa using h 0 _ rfl, h 1 _ rfl, h 2 _ rfl⟩
abbrev KeepG {T : Type} (G : (Nat → Prop) → World → T → Prop) : Prop := ∀ (O O' : Nat → Prop) (w w' : World) (x : T), G O w x → Kc O w w' → (∀ b, b < w.heap.size → O' b → O b) → G O' w' x
abbrev Ob (v : Value) (b : Nat) : Prop := v.ownBlock = some b
/-- a compound of the law's own: its combinator, the number of its '&', its names -/
structure Cm where
  cb : Int
  am : Nat
  nm : List ByteArray
abbrev CmL (c : Cm) (a : Option Addr) (cc : Nat) : List Value := [.int .u8 c.cb, .int .u8 c.am, .slice a c.nm.length cc]
def RN (w : World) (a : Option Addr) (ls : List ByteArray) : Prop := ∀ i s, ls[i]? = some s → ∃ b o, a = some ⟨b, o, none⟩ ∧ w.cell? ⟨b, o + i, none⟩ = some (.string s) ∧ s.size ≤ maxLen
def RM (w : World) (a : Option Addr) (ls : List Cm) : Prop := ∀ i c, ls[i]? = some c → ∃ b o a' c', a = some ⟨b, o, none⟩ ∧ Seg w b (o + i * 3) (CmL c a' c') ∧ RN w a' c.nm ∧ c.nm.length ≤ maxLen ∧ c.am ≤ 255
def RX (w : World) (a : Option Addr) (ls : List (List Cm)) : Prop := ∀ i g, ls[i]? = some g → ∃ b o a' c', a = some ⟨b, o, none⟩ ∧ w.cell? ⟨b, o + i, none⟩ = some (.slice a' g.length c') ∧ RM w a' g ∧ g.length ≤ maxLen
theorem RN.after {w w' : World} {a : Option Addr} {ls : List ByteArray} (h : RN w a ls) (hb : Below w.heap.size w w') : RN w' a ls := fun i s hi => by
  obtain ⟨b, o, h1, h2, h3⟩ := h i s hi
  exact ⟨b, o, h1, ac hb h2, h3⟩
theorem RM.after {w w' : World} {a : Option Addr} {ls : List Cm} (h : RM w a ls) (hb : Below w.heap.size w w') : RM w' a ls := fun i s hi => by
  obtain ⟨b, o, a', c', h1, h2, h3, h4⟩ := h i s hi
  exact ⟨b, o, a', c', h1, h2.after hb, h3.after hb, h4⟩
theorem RX.after {w w' : World} {a : Option Addr} {ls : List (List Cm)} (h : RX w a ls) (hb : Below w.heap.size w w') : RX w' a ls := fun i s hi => by
  obtain ⟨b, o, a', c', h1, h2, h3, h4⟩ := h i s hi
  exact ⟨b, o, a', c', h1, ac hb h2, h3.after hb, h4⟩
/-- a subclass selector as it is built; k: what it says; l: where its range begins -/
structure SubR (K : Type) where
  t : TypeId
  p : Value
  k : K
abbrev SubR.v {K : Type} (s : SubR K) : Value := .iface s.t s.p
abbrev SubR.arr {K : Type} (s : SubR K) : Array Value := #[.iface s.t s.p, .int .i32 0, .int .i32 0]
def SubR.cells {K : Type} (s : SubR K) : List Value := s.arr.toList
theorem SubR.len {K : Type} (s : SubR K) : s.cells.length = 3 := rfl
/-- what a compound says: its combinator, the number of its '&', its subclass selectors -/
structure CK (K : Type) where
  cb : Int
  nn : Nat
  ks : List K
structure CpR (K : Type) where
  a : Option Addr
  c : Nat
  ls : List (SubR K)
  nx : Option Addr
  nn : Nat
  nc : Nat
  cb : Int
abbrev CpR.arr {K : Type} (r : CpR K) : Array Value := #[.pointer none, .slice r.a r.ls.length r.c, .slice r.nx r.nn r.nc, .int .i32 0, .int .u8 r.cb, .bool false]
def CpR.cells {K : Type} (r : CpR K) : List Value := r.arr.toList
theorem CpR.len {K : Type} (r : CpR K) : r.cells.length = 6 := rfl
def CpR.key {K : Type} (r : CpR K) : CK K := ⟨r.cb, r.nn, r.ls.map SubR.k⟩
structure CxR (K : Type) where
  a : Option Addr
  c : Nat
  ls : List (CpR K)
abbrev CxR.arr {K : Type} (r : CxR K) : Array Value := #[.slice r.a r.ls.length r.c]
def CxR.cells {K : Type} (r : CxR K) : List Value := r.arr.toList
theorem CxR.len {K : Type} (r : CxR K) : r.cells.length = 1 := rfl
def CxR.key {K : Type} (r : CxR K) : List (CK K) := r.ls.map CpR.key
theorem SubR.one {K : Type} (t : SubR K) : t.arr.all (·.oneCell') = true := by simp [Value.oneCell']
theorem CpR.one {K : Type} (t : CpR K) : t.arr.all (·.oneCell') = true := by simp [Value.oneCell']
theorem CxR.one {K : Type} (t : CxR K) : t.arr.all (·.oneCell') = true := by simp [Value.oneCell']
/-- a row of locations: zeros -/
def RL (O : Nat → Prop) (w : World) (a : Option Addr) (n : Nat) : Prop := ∀ i, i < n → ∃ g, a = some ⟨g, 0, none⟩ ∧ ¬ O g ∧ w.cell? ⟨g, i, none⟩ = some (.int .i32 0)
theorem RL.keep {O O' : Nat → Prop} {w w' : World} {a : Option Addr} {n : Nat} (h : RL O w a n) (hk : Kc O w w') (ho : ∀ b, b < w.heap.size → O' b → O b) : RL O' w' a n := fun i hi => by
  obtain ⟨g, h1, hn, h2⟩ := h i hi
  exact ⟨g, h1, fun q => hn (ho _ (block_lt_of_cell h2) q), hk _ _ h2 hn⟩
def RSub {K : Type} (G : (Nat → Prop) → World → SubR K → Prop) (O : Nat → Prop) (w : World) (a : Option Addr) (ls : List (SubR K)) : Prop := ∀ i s, ls[i]? = some s → ∃ g, a = some ⟨g, 0, none⟩ ∧ ¬ O g ∧ Seg w g (i * 3) s.cells ∧ G O w s
theorem RSub.keep {K : Type} {G : (Nat → Prop) → World → SubR K → Prop} (hG : KeepG G) {O O' : Nat → Prop} {w w' : World} {a : Option Addr} {ls : List (SubR K)} (h : RSub G O w a ls) (hk : Kc O w w') (ho : ∀ b, b < w.heap.size → O' b → O b) : RSub G O' w' a ls := fun i s hi => by
  obtain ⟨g, hx, hn, hs, hg⟩ := h i s hi
  exact ⟨g, hx, fun q => hn (ho _ (Seg.lt hs) q), Seg.keep hs hk hn, hG _ _ _ _ _ hg hk ho⟩
def GCp {K : Type} (G : (Nat → Prop) → World → SubR K → Prop) (O : Nat → Prop) (w : World) (r : CpR K) : Prop := RSub G O w r.a r.ls ∧ r.ls.length ≤ maxLen ∧ RL O w r.nx r.nn
theorem GCp.keep {K : Type} {G : (Nat → Prop) → World → SubR K → Prop} (hG : KeepG G) : KeepG (GCp G) := fun O O' w w' r h hk ho => ⟨h.1.keep hG hk ho, h.2.1, h.2.2.keep hk ho⟩
def RCp {K : Type} (G : (Nat → Prop) → World → SubR K → Prop) (O : Nat → Prop) (w : World) (a : Option Addr) (ls : List (CpR K)) : Prop := ∀ i s, ls[i]? = some s → ∃ g, a = some ⟨g, 0, none⟩ ∧ ¬ O g ∧ Seg w g (i * 6) s.cells ∧ GCp G O w s
theorem RCp.keep {K : Type} {G : (Nat → Prop) → World → SubR K → Prop} (hG : KeepG G) {O O' : Nat → Prop} {w w' : World} {a : Option Addr} {ls : List (CpR K)} (h : RCp G O w a ls) (hk : Kc O w w') (ho : ∀ b, b < w.heap.size → O' b → O b) : RCp G O' w' a ls := fun i s hi => by
  obtain ⟨g, hx, hn, hs, hg⟩ := h i s hi
  exact ⟨g, hx, fun q => hn (ho _ (Seg.lt hs) q), Seg.keep hs hk hn, GCp.keep hG _ _ _ _ _ hg hk ho⟩
def GCx {K : Type} (G : (Nat → Prop) → World → SubR K → Prop) (O : Nat → Prop) (w : World) (r : CxR K) : Prop := RCp G O w r.a r.ls ∧ r.ls.length ≤ maxLen
theorem GCx.keep {K : Type} {G : (Nat → Prop) → World → SubR K → Prop} (hG : KeepG G) : KeepG (GCx G) := fun O O' w w' r h hk ho => ⟨h.1.keep hG hk ho, h.2⟩
def RCx {K : Type} (G : (Nat → Prop) → World → SubR K → Prop) (O : Nat → Prop) (w : World) (a : Option Addr) (ls : List (CxR K)) : Prop := ∀ i s, ls[i]? = some s → ∃ g, a = some ⟨g, 0, none⟩ ∧ ¬ O g ∧ w.cell? ⟨g, i, none⟩ = some (.slice s.a s.ls.length s.c) ∧ GCx G O w s
theorem RCx.keep {K : Type} {G : (Nat → Prop) → World → SubR K → Prop} (hG : KeepG G) {O O' : Nat → Prop} {w w' : World} {a : Option Addr} {ls : List (CxR K)} (h : RCx G O w a ls) (hk : Kc O w w') (ho : ∀ b, b < w.heap.size → O' b → O b) : RCx G O' w' a ls := fun i s hi => by
  obtain ⟨g, hx, hn, hs, hg⟩ := h i s hi
  exact ⟨g, hx, fun q => hn (ho _ (block_lt_of_cell hs) q), hk _ _ hs hn, GCx.keep hG _ _ _ _ _ hg hk ho⟩
/-- a plain pseudo-class of that name -/
def G0 (O : Nat → Prop) (w : World) (s : SubR ByteArray) : Prop := s.t = 125 ∧ ∃ B, s.p = .pointer (some ⟨B, 0, none⟩) ∧ ¬ O B ∧ Seg w B 0 [.string s.k, .slice none 0 0, .bool false] ∧ s.k.size ≤ maxLen
theorem G0.keep : KeepG G0 := fun O O' w w' s h hk ho => by
  obtain ⟨h1, B, h2, hn, hs, hm⟩ := h
  exact ⟨h1, B, h2, fun q => hn (ho _ (Seg.lt hs) q), Seg.keep hs hk hn, hm⟩
theorem info107 : (Tryf.prog.info? 107).map (fun i => (i.zero.map (·.cells), i.size, i.bytes)) = some (some #[.nilIface, .int .i32 0, .int .i32 0], 3, 24) := by kernel_rfl
theorem info40 : (Tryf.prog.info? 40).map (fun i => (i.zero.map (·.cells), i.size, i.bytes)) = some (some #[.pointer none, .slice none 0 0, .slice none 0 0, .int .i32 0, .int .u8 0, .bool false], 6, 72) := by kernel_rfl
theorem info110 : (Tryf.prog.info? 110).map (fun i => (i.zero.map (·.cells), i.size, i.bytes)) = some (some #[.slice none 0 0], 1, 24) := by kernel_rfl
theorem info36 : (Tryf.prog.info? 36).map (fun i => (i.zero.map (·.cells), i.size, i.bytes)) = some (some #[.int .i32 0], 1, 4) := by kernel_rfl
theorem segN (w : World) (o : Obj) (vs : List Value) (ty : TypeId) : Seg ((w.alloc o).alloc (.cells vs.toArray ty)) (w.heap.size + 1) 0 vs := by
  have := Seg.new (w.alloc o) vs ty
  simpa using this
theorem own_below {w w' : World} {B : Nat} {e : TypeId} {z : Nat} {v : Value} {n : Nat} {xs : List Value} (h : w.ownsRow B e z v n xs) (hb : Below w.heap.size w w') : w'.ownsRow B e z v n xs := (Kp.of (S := fun _ => False) hb).own h (fun _ _ q => q)
def SubP (k : ByteArray) (w : World) (e : Ending) (w' : World) : Prop := ∃ s : SubR ByteArray, e = .returned (.agg s.arr) ∧ s.k = k ∧ G0 (fun b => b < w.heap.size) w' s ∧ Below w.heap.size w w'
theorem pseudo23_c (nm : ByteArray) (hn : nm.size ≤ maxLen) (w : World) : Calls Tryf.prog 23 #[.string nm] w (SubP nm w) := by
  go_enter Tryf.func23, Tryf.ntmps23
  go_wp2
  exact bodyPost_ret (v := .agg (SubR.arr (⟨125, .pointer (some ⟨w.heap.size + 1, 0, none⟩), nm⟩ : SubR ByteArray))) (by simp [results, Tryf.results23, go_sem]) rfl ⟨_, rfl, rfl, ⟨rfl, _, rfl, (by show ¬ _ < _; omega), segN _ _ _ _, hn⟩, (ba _ _).alloc (by simp) _⟩
def LocP (n : Nat) (w : World) (e : Ending) (w' : World) : Prop := ∃ a c, e = .returned (.slice a n c) ∧ RL (fun b => b < w.heap.size) w' a n ∧ Below w.heap.size w w'
theorem locs22_c (n : Nat) (hn : n ≤ 1048576) (w : World) : Calls Tryf.prog 22 #[.int .i64 n] w (LocP n w) := by
  have mk := make_z (P := Tryf.prog) (b := 4) #[.int .i32 0] Tryf.underlying34 info36 n (by omega) (by omega)
  simp only [Nat.mul_one] at mk
  go_enter Tryf.func22, Tryf.ntmps22
  go_wp2
  exact bodyPost_ret (v := .slice (some ⟨w.heap.size, 0, none⟩) n n) (by simp [results, Tryf.results22, go_sem]) rfl ⟨_, n, rfl, fun i hi => ⟨_, rfl, (by show ¬ _ < _; omega), by
    rw [made_at w #[.int .i32 0] n 36 i hi]
    have : i % (#[Value.int .i32 0]).size = 0 := by show i % 1 = 0; omega
    rw [this]; rfl⟩, ba _ _⟩
end Go.Proofs.YtjigljpodkfchaaFmt
