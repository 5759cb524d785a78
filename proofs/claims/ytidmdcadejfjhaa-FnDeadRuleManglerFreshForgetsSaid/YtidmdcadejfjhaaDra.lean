/- FnDeadRuleManglerFreshForgets: words on what is built, the small functions. -/
import Derived.Test.YtidmdcadejfjhaaAn
import Derived.Test.YtidmdcadejfjhaaArg
import Derived.Test.YtidmdcadejfjhaaMk
import Derived.Test.YtidmdcadejfjhaaSeg
import Derived.Deep.DeepCutAuto
import Derived.WalkSpells
import Derived.Laws.OwnMore
import Derived.OwnWalk
set_option linter.unusedVariables false
set_option linter.unusedSimpArgs false
namespace Go.Proofs.Ytidmdcadejfjhaa
open Go.RowKit
set_option maxRecDepth 100000
set_option maxHeartbeats 4000000
/-- the cells outside O are kept -/
def Kc (O : Nat → Prop) (w w' : World) : Prop := ∀ a v, w.cell? a = some v → ¬ O a.block → w'.cell? a = some v
theorem Kc.of_below {O : Nat → Prop} {w w' : World} (h : Below w.heap.size w w') : Kc O w w' := fun a v hc _ => ac h hc
theorem Kc.of_only {O S : Nat → Prop} {w w' : World} (h : Only S w w') (hs : ∀ b, b < w.heap.size → S b → O b) : Kc O w w' := fun a v hc hn => h.keep hc (fun q => hn (hs _ (block_lt_of_cell hc) q))
theorem Kc.of_kp {O S : Nat → Prop} {w w' : World} (h : Kp S w w') (hs : ∀ b, b < w.heap.size → S b → O b) : Kc O w w' := fun a v hc hn => h.cell hc (fun q => hn (hs _ (block_lt_of_cell hc) q))
theorem Seg.lt {w : World} {b o : Nat} {v : Value} {vs : List Value} (h : Seg w b o (v :: vs)) : b < w.heap.size := block_lt_of_cell (h 0 v rfl)
theorem Seg.keep {O : Nat → Prop} {w w' : World} {b o : Nat} {vs : List Value} (h : Seg w b o vs) (hk : Kc O w w') (hx : ¬ O b) : Seg w' b o vs := fun j v hj => hk _ _ (h j v hj) hx
abbrev KeepG {T : Type} (G : (Nat → Prop) → World → T → Prop) : Prop := ∀ (O O' : Nat → Prop) (w w' : World) (x : T), G O w x → Kc O w w' → (∀ b, b < w.heap.size → O' b → O b) → G O' w' x
abbrev Ob (v : Value) (b : Nat) : Prop := v.ownBlock = some b
/-- a subclass selector as it is built; k: what it says -/
structure SubR (K : Type) where
  t : TypeId
  p : Value
  k : K
abbrev SubR.v {K : Type} (s : SubR K) : Value := .iface s.t s.p
abbrev SubR.arr {K : Type} (s : SubR K) : Array Value := #[.iface s.t s.p, .int .i32 0, .int .i32 0]
def SubR.cells {K : Type} (s : SubR K) : List Value := s.arr.toList
theorem SubR.len {K : Type} (s : SubR K) : s.cells.length = 3 := rfl
structure CpR (K : Type) where
  a : Option Addr
  c : Nat
  ls : List (SubR K)
abbrev CpR.arr {K : Type} (r : CpR K) : Array Value := #[.pointer none, .slice r.a r.ls.length r.c, .slice none 0 0, .int .i32 0, .int .u8 0, .bool false]
def CpR.cells {K : Type} (r : CpR K) : List Value := r.arr.toList
theorem CpR.len {K : Type} (r : CpR K) : r.cells.length = 6 := rfl
def CpR.key {K : Type} (r : CpR K) : List K := r.ls.map SubR.k
structure CxR (K : Type) where
  a : Option Addr
  c : Nat
  ls : List (CpR K)
abbrev CxR.arr {K : Type} (r : CxR K) : Array Value := #[.slice r.a r.ls.length r.c]
def CxR.cells {K : Type} (r : CxR K) : List Value := r.arr.toList
theorem CxR.len {K : Type} (r : CxR K) : r.cells.length = 1 := rfl
def CxR.key {K : Type} (r : CxR K) : List (List K) := r.ls.map CpR.key
theorem SubR.one {K : Type} (t : SubR K) : t.arr.all (·.oneCell') = true := by simp [Value.oneCell']
theorem CpR.one {K : Type} (t : CpR K) : t.arr.all (·.oneCell') = true := by simp [Value.oneCell']
theorem CxR.one {K : Type} (t : CxR K) : t.arr.all (·.oneCell') = true := by simp [Value.oneCell']
theorem int1 (x : Int) : (#[Value.int .i64 x] : Array Value).all (·.oneCell') = true := by simp [Value.oneCell']
/-- rows of such things; no block of it lies in O -/
def RSub {K : Type} (G : (Nat → Prop) → World → SubR K → Prop) (O : Nat → Prop) (w : World) (a : Option Addr) (ls : List (SubR K)) : Prop := ∀ i s, ls[i]? = some s → ∃ g, a = some ⟨g, 0, none⟩ ∧ ¬ O g ∧ Seg w g (i * 3) s.cells ∧ G O w s
theorem RSub.keep {K : Type} {G : (Nat → Prop) → World → SubR K → Prop} (hG : KeepG G) {O O' : Nat → Prop} {w w' : World} {a : Option Addr} {ls : List (SubR K)} (h : RSub G O w a ls) (hk : Kc O w w') (ho : ∀ b, b < w.heap.size → O' b → O b) : RSub G O' w' a ls := fun i s hi => by
  obtain ⟨g, hx, hn, hs, hg⟩ := h i s hi
  exact ⟨g, hx, fun q => hn (ho _ (Seg.lt hs) q), Seg.keep hs hk hn, hG _ _ _ _ _ hg hk ho⟩
def GCp {K : Type} (G : (Nat → Prop) → World → SubR K → Prop) (O : Nat → Prop) (w : World) (r : CpR K) : Prop := RSub G O w r.a r.ls ∧ r.ls.length ≤ maxLen
theorem GCp.keep {K : Type} {G : (Nat → Prop) → World → SubR K → Prop} (hG : KeepG G) : KeepG (GCp G) := fun O O' w w' r h hk ho => ⟨h.1.keep hG hk ho, h.2⟩
def RCp {K : Type} (G : (Nat → Prop) → World → SubR K → Prop) (O : Nat → Prop) (w : World) (a : Option Addr) (ls : List (CpR K)) : Prop := ∀ i s, ls[i]? = some s → ∃ g, a = some ⟨g, 0, none⟩ ∧ ¬ O g ∧ Seg w g (i * 6) s.cells ∧ GCp G O w s
theorem RCp.keep {K : Type} {G : (Nat → Prop) → World → SubR K → Prop} (hG : KeepG G) {O O' : Nat → Prop} {w w' : World} {a : Option Addr} {ls : List (CpR K)} (h : RCp G O w a ls) (hk : Kc O w w') (ho : ∀ b, b < w.heap.size → O' b → O b) : RCp G O' w' a ls := fun i s hi => by
  obtain ⟨g, hx, hn, hs, hg⟩ := h i s hi
  exact ⟨g, hx, fun q => hn (ho _ (Seg.lt hs) q), Seg.keep hs hk hn, GCp.keep hG _ _ _ _ _ hg hk ho⟩
def GCx {K : Type} (G : (Nat → Prop) → World → SubR K → Prop) (O : Nat → Prop) (w : World) (r : CxR K) : Prop := RCp G O w r.a r.ls ∧ r.ls.length ≤ maxLen
theorem GCx.keep {K : Type} {G : (Nat → Prop) → World → SubR K → Prop} (hG : KeepG G) : KeepG (GCx G) := fun O O' w w' r h hk ho => ⟨h.1.keep hG hk ho, h.2⟩
def RCx {K : Type} (G : (Nat → Prop) → World → SubR K → Prop) (O : Nat → Prop) (w : World) (a : Option Addr) (ls : List (CxR K)) : Prop := ∀ i s, ls[i]? = some s → ∃ g, a = some ⟨g, 0, none⟩ ∧ ¬ O g ∧ w.cell? ⟨g, i, none⟩ = some (.slice s.a s.ls.length s.c) ∧ GCx G O w s
theorem RCx.keep {K : Type} {G : (Nat → Prop) → World → SubR K → Prop} (hG : KeepG G) {O O' : Nat → Prop} {w w' : World} {a : Option Addr} {ls : List (CxR K)} (h : RCx G O w a ls) (hk : Kc O w w') (ho : ∀ b, b < w.heap.size → O' b → O b) : RCx G O' w' a ls := fun i s hi => by
  obtain ⟨g, hx, hn, hs, hg⟩ := h i s hi
  exact ⟨g, hx, fun q => hn (ho _ (block_lt_of_cell hs) q), hk _ _ hs hn, GCx.keep hG _ _ _ _ _ hg hk ho⟩
def hov : ByteArray := ⟨#[104, 111, 118, 101, 114]⟩
/-- a plain pseudo-class -/
def P0 (O : Nat → Prop) (w : World) (t : TypeId) (p : Value) : Prop := t = 106 ∧ ∃ B, p = .pointer (some ⟨B, 0, none⟩) ∧ ¬ O B ∧ Seg w B 0 [.string hov, .slice none 0 0, .bool false]
theorem P0.keep {O O' : Nat → Prop} {w w' : World} {t : TypeId} {p : Value} (h : P0 O w t p) (hk : Kc O w w') (ho : ∀ b, b < w.heap.size → O' b → O b) : P0 O' w' t p := by
  obtain ⟨h1, B, h2, hn, hs⟩ := h
  exact ⟨h1, B, h2, fun q => hn (ho _ (Seg.lt hs) q), Seg.keep hs hk hn⟩
def G0 (O : Nat → Prop) (w : World) (s : SubR Unit) : Prop := P0 O w s.t s.p
theorem G0.keep : KeepG G0 := fun O O' w w' s h hk ho => P0.keep h hk ho
/-- none: a plain one; (k, b): a list of kind k, empty or of one selector -/
abbrev K1 := Option (Nat × Bool)
def inK (b : Bool) : List (List (List Unit)) := if b then [[[()]]] else []
def G1 (O : Nat → Prop) (w : World) (s : SubR K1) : Prop := (s.k = none ∧ P0 O w s.t s.p) ∨ ∃ k b B a c ls, s.k = some (k, b) ∧ s.t = 97 ∧ s.p = .pointer (some ⟨B, 0, none⟩) ∧ ¬ O B ∧ Seg w B 0 [.slice a ls.length c, .string ⟨#[]⟩, .string ⟨#[]⟩, .int .u8 k] ∧ RCx G0 O w a ls ∧ ls.length ≤ maxLen ∧ ls.map CxR.key = inK b ∧ k ≤ 255
theorem G1.keep : KeepG G1 := fun O O' w w' s h hk ho => by
  rcases h with ⟨h1, h2⟩ | ⟨k, b, B, a, c, ls, h1, h2, h3, hn, hs, hr, h4⟩
  · exact .inl ⟨h1, h2.keep hk ho⟩
  · exact .inr ⟨k, b, B, a, c, ls, h1, h2, h3, fun q => hn (ho _ (Seg.lt hs) q), Seg.keep hs hk hn, hr.keep G0.keep hk ho, h4⟩
theorem info95 : (Try.prog.info? 95).map (fun i => (i.zero.map (·.cells), i.size, i.bytes)) = some (some #[.nilIface, .int .i32 0, .int .i32 0], 3, 24) := by kernel_rfl
theorem info84 : (Try.prog.info? 84).map (fun i => (i.zero.map (·.cells), i.size, i.bytes)) = some (some #[.pointer none, .slice none 0 0, .slice none 0 0, .int .i32 0, .int .u8 0, .bool false], 6, 72) := by kernel_rfl
theorem info50 : (Try.prog.info? 50).map (fun i => (i.zero.map (·.cells), i.size, i.bytes)) = some (some #[.slice none 0 0], 1, 24) := by kernel_rfl
theorem info3 : (Try.prog.info? 3).map (fun i => (i.zero.map (·.cells), i.size, i.bytes)) = some (some #[.int .i64 0], 1, 8) := by kernel_rfl
def SomeB (w : World) (e : Ending) (w' : World) : Prop := ∃ b : Bool, e = .returned (.bool b) ∧ w = w'
def SomeI (w : World) (e : Ending) (w' : World) : Prop := ∃ x : Int, e = .returned (.int .i64 x) ∧ w = w'
def ByteN (x : Nat) (w : World) (e : Ending) (w' : World) : Prop := e = .returned (.int .i64 x) ∧ w = w'
/-- a slice of bytes, read -/
structure Byt (w : World) (A : Option Addr) (n : Nat) (f : Nat → Nat) : Prop where
  row : Row .u8 w A n (fun i => f i)
  wf : ∀ i, f i ≤ 255
  ext : ∀ i, n ≤ i → f i = 0
  le : n ≤ 1048576
theorem Byt.after {w w' : World} {A : Option Addr} {n : Nat} {f : Nat → Nat} (h : Byt w A n f) (hb : Below w.heap.size w w') : Byt w' A n f := ⟨h.row.after hb, h.wf, h.ext, h.le⟩
theorem at17_c (A : Option Addr) (n c : Nat) (f : Nat → Nat) (j : Nat) (w : World) (h : Byt w A n f) : Calls Try.prog 17 #[.slice A n c, .int .i64 j] w (ByteN (f j) w) := by
  have hn := h.le
  by_cases h1 : j < n
  · obtain ⟨x, rfl, hc⟩ := h.row j h1
    replace hc : w.cell? (x.add j) = some (.int .u8 (f j : Nat)) := hc
    have g1 := h.wf j
    have i0 : (0 : Int) ≤ j := by omega
    have i1 : (j : Int) < n := by omega
    generalize f j = m at *
    clear h
    go_enter Try.func17, Try.ntmps17
    go_wp2
    go_ret
    exact ⟨rfl, rfl⟩
  · have e := h.ext j (by omega)
    rw [e]
    clear h e
    have i0 : (0 : Int) ≤ j := by omega
    have h1' : (n : Int) ≤ j := by omega
    go_enter Try.func17, Try.ntmps17
    go_wp2
    go_ret
    exact ⟨rfl, rfl⟩
theorem dead20_c (A B : Option Addr) (n c m c' : Nat) (f g : Nat → Nat) (j : Nat) (w : World) (h : Byt w A n f) (h' : Byt w B m g) : Calls Try.prog 20 #[.slice A n c, .slice B m c', .int .i64 j] w (SomeB w) := by
  have C := Lib.hid (at17_c A n c f j w h); have C' := Lib.hid (at17_c B m c' g j w h')
  have hx := h.wf j
  have hy := h'.wf j
  generalize f j = x at *
  generalize g j = y at *
  clear h h'
  go_enter Try.func20, Try.ntmps20
  go_wp2_with (first | (go_at_call 17; (with_reducible refine C.out.mono ?_); rintro e w' ⟨rfl, rfl⟩) | (go_at_call 17; (with_reducible refine C'.out.mono ?_); rintro e w' ⟨rfl, rfl⟩))
  all_goals (go_ret; exact ⟨_, rfl, rfl⟩)
theorem key21_c (A B : Option Addr) (n c m c' : Nat) (f g : Nat → Nat) (j : Nat) (w : World) (h : Byt w A n f) (h' : Byt w B m g) : Calls Try.prog 21 #[.slice A n c, .slice B m c', .int .i64 j] w (SomeI w) := by
  have C := Lib.hid (at17_c A n c f j w h); have C' := Lib.hid (at17_c B m c' g j w h')
  have hx := h.wf j
  have hy := h'.wf j
  generalize f j = x at *
  generalize g j = y at *
  clear h h'
  go_enter Try.func21, Try.ntmps21
  go_wp2_with (first | (go_at_call 17; (with_reducible refine C.out.mono ?_); rintro e w' ⟨rfl, rfl⟩) | (go_at_call 17; (with_reducible refine C'.out.mono ?_); rintro e w' ⟨rfl, rfl⟩))
  all_goals (go_ret; exact ⟨_, rfl, rfl⟩)
def SubP (k : K1) (w : World) (e : Ending) (w' : World) : Prop := ∃ s : SubR K1, e = .returned (.agg s.arr) ∧ s.k = k ∧ G1 (fun b => b < w.heap.size) w' s ∧ Below w.heap.size w w'
theorem segN (w : World) (o : Obj) (vs : List Value) (ty : TypeId) : Seg ((w.alloc o).alloc (.cells vs.toArray ty)) (w.heap.size + 1) 0 vs := by
  have := Seg.new (w.alloc o) vs ty
  simpa using this
theorem plain23_c (w : World) : Calls Try.prog 23 #[] w (SubP none w) := by
  go_enter Try.func23, Try.ntmps23
  go_wp2
  exact bodyPost_ret (v := .agg (SubR.arr (⟨106, .pointer (some ⟨w.heap.size + 1, 0, none⟩), none⟩ : SubR K1))) (by simp [results, Try.results23, go_sem]) rfl ⟨_, rfl, rfl, .inl ⟨rfl, rfl, _, rfl, (by show ¬ _ < _; omega), segN _ _ _ _⟩, (ba _ _).alloc (by simp) _⟩
theorem list24_c (k : Nat) (hk : k ≤ 255) (b : Bool) (a : Option Addr) (c : Nat) (ls : List (CxR Unit)) (M n : Nat) (w : World) (hM : M ≤ w.heap.size) (hR : RCx G0 (fun b => b < M) w a ls) (hl : ls.length ≤ maxLen) (hb : ls.map CxR.key = inK b) (hn : ls.length = n) : Calls Try.prog 24 #[.int .u8 k, .slice a n c] w (fun e w' => ∃ s : SubR K1, e = .returned (.agg s.arr) ∧ s.k = some (k, b) ∧ G1 (fun b => b < M) w' s ∧ Below w.heap.size w w') := by
  replace hR := Lib.hid hR
  replace hb := Lib.hid hb
  replace hn := Lib.hid hn
  go_enter Try.func24, Try.ntmps24
  go_wp2
  exact bodyPost_ret (v := .agg (SubR.arr (⟨97, .pointer (some ⟨w.heap.size + 1, 0, none⟩), some (k, b)⟩ : SubR K1))) (by simp [results, Try.results24, go_sem]) rfl ⟨_, rfl, rfl, .inr ⟨k, b, _, a, c, ls, rfl, rfl, rfl, (by show ¬ _ < _; omega), by rw [hn.out]; exact segN _ _ _ _, hR.out.keep G0.keep (Kc.of_below ((ba _ _).alloc (by simp) _)) (fun _ _ q => q), hl, hb.out, hk⟩, (ba _ _).alloc (by simp) _⟩
theorem own_below {w w' : World} {B : Nat} {e : TypeId} {z : Nat} {v : Value} {n : Nat} {xs : List Value} (h : w.ownsRow B e z v n xs) (hb : Below w.heap.size w w') : w'.ownsRow B e z v n xs := (Kp.of (S := fun _ => False) hb).own h (fun _ _ q => q)
/-- what zzBuildSub makes -/
def subK (T Q : Nat → Nat) (j : Nat) : K1 := if T j % 3 = 0 then none else if T j % 3 = 1 then some (Q j, false) else some (Q j, true)
theorem one_get {T : Type} {x s : T} {i : Nat} (h : [x][i]? = some s) : i = 0 ∧ s = x := by
  rcases i with _ | i
  · simp at h
    exact ⟨rfl, h.symm⟩
  · simp at h
theorem inner_new (w : World) (t : TypeId) (p : Value) (M : Nat) (hM : M ≤ w.heap.size) (h : P0 (fun b => b < M) w t p) : RCx G0 (fun b => b < M) (((w.alloc (.cells #[.iface t p, .int .i32 0, .int .i32 0] 95)).alloc (.cells #[.pointer none, .slice (some ⟨w.heap.size, 0, none⟩) 1 1, .slice none 0 0, .int .i32 0, .int .u8 0, .bool false] 84)).alloc (.cells #[.slice (some ⟨w.heap.size + 1, 0, none⟩) 1 1] 50)) (some ⟨w.heap.size + 2, 0, none⟩) [⟨some ⟨w.heap.size + 1, 0, none⟩, 1, [⟨some ⟨w.heap.size, 0, none⟩, 1, [⟨t, p, ()⟩]⟩]⟩] := by
  have s0 := Seg.new w [.iface t p, .int .i32 0, .int .i32 0] 95
  have s1 := segN w (.cells #[.iface t p, .int .i32 0, .int .i32 0] 95) [.pointer none, .slice (some ⟨w.heap.size, 0, none⟩) 1 1, .slice none 0 0, .int .i32 0, .int .u8 0, .bool false] 84
  have s2 := segN (w.alloc (.cells #[.iface t p, .int .i32 0, .int .i32 0] 95)) (.cells #[.pointer none, .slice (some ⟨w.heap.size, 0, none⟩) 1 1, .slice none 0 0, .int .i32 0, .int .u8 0, .bool false] 84) [.slice (some ⟨w.heap.size + 1, 0, none⟩) 1 1] 50
  have b1 := ba (w.alloc (.cells #[.iface t p, .int .i32 0, .int .i32 0] 95)) (.cells #[.pointer none, .slice (some ⟨w.heap.size, 0, none⟩) 1 1, .slice none 0 0, .int .i32 0, .int .u8 0, .bool false] 84)
  have b2 := ba ((w.alloc (.cells #[.iface t p, .int .i32 0, .int .i32 0] 95)).alloc (.cells #[.pointer none, .slice (some ⟨w.heap.size, 0, none⟩) 1 1, .slice none 0 0, .int .i32 0, .int .u8 0, .bool false] 84)) (.cells #[.slice (some ⟨w.heap.size + 1, 0, none⟩) 1 1] 50)
  intro i s hi
  obtain ⟨rfl, rfl⟩ := one_get hi
  refine ⟨_, rfl, (by show ¬ _ < _; omega), ?_, ?_, (by show 1 ≤ maxLen; unfold maxLen; omega)⟩
  · have := s2 0 _ rfl
    simpa using this
  · intro i s hi
    obtain ⟨rfl, rfl⟩ := one_get hi
    refine ⟨_, rfl, (by show ¬ _ < _; omega), s1.after b2, ?_, (by show 1 ≤ maxLen; unfold maxLen; omega)⟩
    intro i s hi
    obtain ⟨rfl, rfl⟩ := one_get hi
    exact ⟨_, rfl, (by show ¬ _ < _; omega), (s0.after b1).after b2, G0.keep _ _ _ _ _ h (Kc.of_below (((ba _ _).alloc (by simp) _).alloc (by simp; omega) _)) (fun _ _ q => q)⟩
theorem store3 {K : Type} {w : World} {P B : Nat} {xs : List Value} (h : w.ownsRow B 95 3 (.slice (some ⟨P, 0, none⟩) 1 1) 1 xs) (s : SubR K) :
    (((w.setCell ⟨P, 0, none⟩ (.iface s.t s.p)).setCell ⟨P, 1, none⟩ (.int .i32 0)).setCell ⟨P, 2, none⟩ (.int .i32 0)).ownsRow B 95 3 (.slice (some ⟨P, 0, none⟩) 1 1) 1 s.cells ∧ Kp (fun b => b = P) w (((w.setCell ⟨P, 0, none⟩ (.iface s.t s.p)).setCell ⟨P, 1, none⟩ (.int .i32 0)).setCell ⟨P, 2, none⟩ (.int .i32 0)) := by
  have h0 := h.stored 0 (.iface s.t s.p)
  have h1 := h0.1.stored 1 (.int .i32 0)
  have h2 := h1.1.stored 2 (.int .i32 0)
  have Z : ∀ (w1 : World) (j : Nat) (v : Value), Kp (fun b => b = P) w w1 → Kp (fun b => b = P) w (w1.setCell ⟨P, j, none⟩ v) := fun w1 j v h => h.set _ _ (.inl rfl)
  refine ⟨?_, Z _ _ _ (Z _ _ _ (Z _ _ _ (Kp.refl w)))⟩
  have hl := h.1
  match xs, hl with
  | [x0, x1, x2], _ => exact h2.1
theorem own3 {w : World} {P B : Nat} {xs : List Value} (h : w.ownsRow B 95 3 (.slice (some ⟨P, 0, none⟩) 1 1) 1 xs) : ∃ v0 v1 v2, w.cell? ⟨P, 0, none⟩ = some v0 ∧ w.cell? ⟨P, 1, none⟩ = some v1 ∧ w.cell? ⟨P, 2, none⟩ = some v2 ∧ w.frozen? ⟨P, 0, none⟩ = false ∧ w.frozen? ⟨P, 1, none⟩ = false ∧ w.frozen? ⟨P, 2, none⟩ = false := by
  have hl := h.1
  match xs, hl with
  | [x0, x1, x2], _ => exact ⟨x0, x1, x2, h.cellAt 0 (by omega), h.cellAt 1 (by omega), h.cellAt 2 (by omega), h.frozenAt 0, h.frozenAt 1, h.frozenAt 2⟩
theorem sub22_end {T Q : Nat → Nat} {j : Nat} {w W w1 : World} {s : SubR K1} {xs : List Value} {M : Nat} (hB : Below w.heap.size w w1) (hO : w1.ownsRow w.heap.size 95 3 (.slice (some ⟨w.heap.size, 0, none⟩) 1 1) 1 xs) (hk : s.k = subK T Q j) (hg : G1 (fun b => b < M) w1 s) (hM : w.heap.size < M) : SubP (subK T Q j) w (.returned (.agg s.arr)) (((w1.setCell ⟨w.heap.size, 0, none⟩ s.v).setCell ⟨w.heap.size, 1, none⟩ (.int .i32 0)).setCell ⟨w.heap.size, 2, none⟩ (.int .i32 0)) :=
  ⟨s, rfl, hk, G1.keep _ _ _ _ _ hg (Kc.of_kp (store3 hO s).2 (fun b _ q => by show b < M; omega)) (fun b _ q => by show b < M; have : b < w.heap.size := q; omega), ((hB.setCell (Nat.le_refl _) _).setCell (Nat.le_refl _) _).setCell (Nat.le_refl _) _⟩
theorem sub22_c (A B : Option Addr) (n c m c' : Nat) (T Q : Nat → Nat) (j : Nat) (w : World) (h : Byt w A n T) (h' : Byt w B m Q) : Calls Try.prog 22 #[.slice A n c, .slice B m c', .int .i64 j] w (SubP (subK T Q j) w) := by
  have C := Lib.hid (fun w' (hb : Below w.heap.size w w') => at17_c A n c T j w' (h.after hb)); have C' := Lib.hid (fun w' (hb : Below w.heap.size w w') => at17_c B m c' Q j w' (h'.after hb))
  have hx := h.wf j
  have hy := h'.wf j
  have hS0 : Hid (T j % 3 = 0 → subK T Q j = none) := Lib.hid (fun e => by rw [subK, if_pos e])
  have hS1 : Hid (T j % 3 = 1 → subK T Q j = some (Q j, false)) := Lib.hid (fun e => by rw [subK, if_neg (by omega), if_pos e])
  have hS2 : Hid (T j % 3 = 2 → subK T Q j = some (Q j, true)) := Lib.hid (fun e => by rw [subK, if_neg (by omega), if_neg (by omega)])
  clear h h'
  have hEnd : Hid (∀ (w1 : World) (s : SubR K1) (xs : List Value) (M : Nat), Below w.heap.size w w1 → w1.ownsRow w.heap.size 95 3 (.slice (some ⟨w.heap.size, 0, none⟩) 1 1) 1 xs → s.k = subK T Q j → G1 (fun b => b < M) w1 s → w.heap.size < M → SubP (subK T Q j) w (.returned (.agg s.arr)) (((w1.setCell ⟨w.heap.size, 0, none⟩ s.v).setCell ⟨w.heap.size, 1, none⟩ (.int .i32 0)).setCell ⟨w.heap.size, 2, none⟩ (.int .i32 0))) := Lib.hid (fun w1 s xs M a1 a2 a3 a4 a5 => sub22_end (W := w1) a1 a2 a3 a4 a5)
  generalize subK T Q j = sk at *
  generalize T j = x at *
  generalize Q j = y at *
  have hy2 : Hid (((y : Int) % 256) = y) := Lib.hid (by omega)
  go_enter Try.func22, Try.ntmps22
  go_upto_region 3 with (first | (go_at_call 17; (with_reducible refine (C.out _ (ba _ _)).mono ?_); rintro e w' ⟨rfl, rfl⟩) | (go_at_call 17; (with_reducible refine (C'.out _ (ba _ _)).mono ?_); rintro e w' ⟨rfl, rfl⟩))
  refine wp_gen (fun W hW => ?_)
  have hO : Hid (W.ownsRow w.heap.size 95 3 (.slice (some ⟨w.heap.size, 0, none⟩) 1 1) 1 [.nilIface, .int .i32 0, .int .i32 0]) := Lib.hid (by rw [hW]; exact World.ownsRow_lit _ #[.nilIface, .int .i32 0, .int .i32 0] 1 (Nat.le_refl _) (by decide) rfl)
  have hB : Hid (Below w.heap.size w W) := Lib.hid (by rw [hW]; exact ba _ _)
  have hsz : w.heap.size < W.heap.size := (hO.out.lt _ rfl).2
  clear hW C C'
  by_cases h0 : x % 3 = 0
  · have t0 : ((x : Int) % 3 == 0) = true := by simp; omega
    have hsk := Lib.hid (hS0.out h0)
    go_wp2_with (go_at_call 23; (with_reducible refine (plain23_c _).mono ?_); rintro e w1 ⟨s, rfl, hk, hg, hb⟩; replace hk := Lib.hid hk; replace hO := Lib.hid (own_below hO.out hb); have hB1 := Lib.hid (hB.out.trans (hb.mono hB.out.size)); replace hg := Lib.hid hg; clear hb; obtain ⟨v0, v1, v2, c0, c1, c2, f0, f1, f2⟩ := own3 hO.out)
    exact bodyPost_ret (v := .agg s.arr) (by simp [results, Try.results22, go_sem, c0, c1, c2]) rfl (hEnd.out w1 s _ _ hB1.out hO.out (by rw [hk.out, hsk.out]) hg.out hsz)
  · have t0 : ((x : Int) % 3 == 0) = false := by simp; omega
    by_cases h1 : x % 3 = 1
    · have t1 : ((x : Int) % 3 == 1) = true := by simp; omega
      have hsk := Lib.hid (hS1.out h1)
      have C24 := Lib.hid (list24_c y (by omega) false none 0 [] W.heap.size 0 W (Nat.le_refl _) (fun i s hi => by simp at hi) (by simp) rfl rfl)
      go_wp2_with (go_at_call 24; (with_reducible refine C24.out.mono ?_); rintro e w1 ⟨s, rfl, hk, hg, hb⟩; replace hk := Lib.hid hk; replace hO := Lib.hid (own_below hO.out hb); have hB1 := Lib.hid (hB.out.trans (hb.mono hB.out.size)); replace hg := Lib.hid hg; clear hb; obtain ⟨v0, v1, v2, c0, c1, c2, f0, f1, f2⟩ := own3 hO.out)
      exact bodyPost_ret (v := .agg s.arr) (by simp [results, Try.results22, go_sem, c0, c1, c2]) rfl (hEnd.out w1 s _ _ hB1.out hO.out (by rw [hk.out, hsk.out]) hg.out hsz)
    · have t1 : ((x : Int) % 3 == 1) = false := by simp; omega
      have hsk := Lib.hid (hS2.out (by omega))
      go_upto_region 8 with (go_at_call 23; (with_reducible refine (plain23_c _).mono ?_); rintro e w1 ⟨s, rfl, hk, hg, hb⟩; replace hg := Lib.hid hg; replace hk := Lib.hid hk; replace hO := Lib.hid (own_below hO.out hb); replace hB := Lib.hid (hB.out.trans (hb.mono hB.out.size)); have hs1 := hb.size; clear hb)
      refine wp_gen (fun W2 hW => ?_)
      have hb : Below w1.heap.size w1 W2 := by rw [hW]; exact ((ba _ _).alloc (by simp) _).alloc (by simp; omega) _
      have hIn : Hid (RCx G0 (fun b => b < W.heap.size) W2 (some ⟨w1.heap.size + 2, 0, none⟩) [⟨some ⟨w1.heap.size + 1, 0, none⟩, 1, [⟨some ⟨w1.heap.size, 0, none⟩, 1, [⟨s.t, s.p, ()⟩]⟩]⟩]) := Lib.hid (by
        rw [hW]
        refine inner_new w1 s.t s.p W.heap.size hs1 ?_
        rcases hg.out with ⟨-, q⟩ | ⟨k, b, _, _, _, _, q, -⟩
        · exact q
        · rw [hk.out] at q; cases q)
      replace hO := Lib.hid (own_below hO.out hb); replace hB := Lib.hid (hB.out.trans (hb.mono hB.out.size))
      have hs2 := hb.size
      clear hW hb hg hk
      have C24 := Lib.hid (list24_c y (by omega) true (some ⟨w1.heap.size + 2, 0, none⟩) 1 _ W.heap.size 1 W2 (by omega) hIn.out (by show 1 ≤ maxLen; unfold maxLen; omega) rfl rfl)
      clear hIn
      go_wp2_with (go_at_call 24; (with_reducible refine C24.out.mono ?_); rintro e w3 ⟨s, rfl, hk, hg, hb⟩; replace hk := Lib.hid hk; replace hO := Lib.hid (own_below hO.out hb); have hB1 := Lib.hid (hB.out.trans (hb.mono hB.out.size)); replace hg := Lib.hid hg; clear hb; obtain ⟨v0, v1, v2, c0, c1, c2, f0, f1, f2⟩ := own3 hO.out)
      exact bodyPost_ret (v := .agg s.arr) (by simp [results, Try.results22, go_sem, c0, c1, c2]) rfl (hEnd.out w3 s _ _ hB1.out hO.out (by rw [hk.out, hsk.out]) hg.out hsz)
end Go.Proofs.Ytidmdcadejfjhaa
