/- FnFlattenMatchesStreamModel: what a compound selector reads as; its parts' makers. -/
import Derived.Test.YtjigljpodkfchadFlb
set_option linter.unusedVariables false
set_option linter.unusedSimpArgs false
namespace Go.Proofs.Ytjigljpodkfchad
open Go.RowKit
set_option maxRecDepth 100000
set_option maxHeartbeats 4000000
/-- a reading that lives on where only blocks in O turn -/
abbrev KeepP {T : Type} (G : (Nat → Prop) → World → T → Prop) : Prop := ∀ (O O' S : Nat → Prop) (w w' : World) (x : T), G O w x → Kp S w w' → (∀ b, b < w.heap.size → S b → O b) → (∀ b, b < w.heap.size → O' b → O b) → G O' w' x
/-- a subclass selector as it lies; k: what it says -/
structure SubR (K : Type) where
  t : TypeId
  p : Value
  k : K
abbrev SubR.arr {K : Type} (s : SubR K) : Array Value := #[.iface s.t s.p, .int .i32 0, .int .i32 0]
def SubR.cells {K : Type} (s : SubR K) : List Value := s.arr.toList
theorem SubR.len {K : Type} (s : SubR K) : s.cells.length = 3 := rfl
theorem SubR.one {K : Type} (t : SubR K) : t.arr.all (·.oneCell') = true := by simp [Value.oneCell']
/-- what a compound says -/
structure Ck (K : Type) where
  cb : Int
  ty : Option ByteArray
  nn : Nat
  ks : List K
/-- a compound's cells -/
structure MR where
  tv : Value
  sv : Value
  nv : Value
  cb : Int
abbrev MR.arr (r : MR) : Array Value := #[r.tv, r.sv, r.nv, .int .i32 0, .int .u8 r.cb, .bool false]
def MR.cells (r : MR) : List Value := r.arr.toList
theorem MR.len (r : MR) : r.cells.length = 6 := rfl
abbrev tyL (s : ByteArray) : List Value := [.pointer none, .string s, .int .i32 0, .int .i32 0, .int .u8 0]
def TyR (O : Nat → Prop) (w : World) (tv : Value) (ty : Option ByteArray) : Prop := match ty with
  | none => tv = .pointer none
  | some s => ∃ B, tv = .pointer (some ⟨B, 0, none⟩) ∧ ¬ O B ∧ Seg w B 0 (tyL s)
theorem TyR.keep {O O' S : Nat → Prop} {w w' : World} {tv : Value} {ty : Option ByteArray} (h : TyR O w tv ty) (hk : Kp S w w') (hs : ∀ b, b < w.heap.size → S b → O b) (ho : ∀ b, b < w.heap.size → O' b → O b) : TyR O' w' tv ty := by
  cases ty with
  | none => exact h
  | some s =>
    obtain ⟨B, h1, h2, h3⟩ := h
    have hlt := Seg.lt h3
    exact ⟨B, h1, fun q => h2 (ho B hlt q), h3.keep (Kc.of_kp hk hs) h2⟩
def NnR (O : Nat → Prop) (w : World) (nv : Value) (nn : Nat) : Prop := ∃ a c, nv = .slice a nn c ∧ ∀ i, i < nn → ∃ g, a = some ⟨g, 0, none⟩ ∧ ¬ O g ∧ w.cell? ⟨g, i, none⟩ = some (.int .i32 0)
theorem NnR.keep {O O' S : Nat → Prop} {w w' : World} {nv : Value} {nn : Nat} (h : NnR O w nv nn) (hk : Kp S w w') (hs : ∀ b, b < w.heap.size → S b → O b) (ho : ∀ b, b < w.heap.size → O' b → O b) : NnR O' w' nv nn := by
  obtain ⟨a, c, h1, h2⟩ := h
  refine ⟨a, c, h1, fun i hi => ?_⟩
  obtain ⟨g, e1, e2, e3⟩ := h2 i hi
  have hlt := block_lt_of_cell e3
  exact ⟨g, e1, fun q => e2 (ho g hlt q), hk.cell e3 (fun q => e2 (hs g hlt q))⟩
/-- a compound that is read: its row of subclass selectors is one that was made by append -/
def RCk {K : Type} (G : (Nat → Prop) → World → SubR K → Prop) (O : Nat → Prop) (w : World) (r : MR) (k : Ck K) : Prop := r.cb = k.cb ∧ TyR (fun b => Ob r.sv b ∨ O b) w r.tv k.ty ∧ NnR (fun b => Ob r.sv b ∨ O b) w r.nv k.nn ∧ ∃ ls : List (SubR K), w.ownsRow 0 111 3 r.sv ls.length (flat SubR.cells ls) ∧ (∀ b, Ob r.sv b → ¬ O b) ∧ (∀ s ∈ ls, G (fun b => Ob r.sv b ∨ O b) w s) ∧ ls.map SubR.k = k.ks
theorem RCk.keep {K : Type} {G : (Nat → Prop) → World → SubR K → Prop} (hG : KeepP G) {O O' S : Nat → Prop} {w w' : World} {r : MR} {k : Ck K} (h : RCk G O w r k) (hk : Kp S w w') (hs : ∀ b, b < w.heap.size → S b → O b) (ho : ∀ b, b < w.heap.size → O' b → O b) : RCk G O' w' r k := by
  obtain ⟨h1, h2, h3, ls, h4, h5, h6, h7⟩ := h
  have hs2 : ∀ b, b < w.heap.size → S b → Ob r.sv b ∨ O b := fun b hb q => .inr (hs b hb q)
  have ho2 : ∀ b, b < w.heap.size → Ob r.sv b ∨ O' b → Ob r.sv b ∨ O b := fun b hb q => q.imp id (ho b hb)
  exact ⟨h1, h2.keep hk hs2 ho2, h3.keep hk hs2 ho2, ls, hk.own h4 (fun b q e => h5 b q (hs b (h4.lt b q).2 e)), fun b q e => h5 b q (ho b (h4.lt b q).2 e), fun s hs' => hG _ _ _ _ _ _ (h6 s hs') hk hs2 ho2, h7⟩
/-- a plain pseudo-class of that name -/
def Gn (O : Nat → Prop) (w : World) (s : SubR ByteArray) : Prop := s.t = 124 ∧ ∃ B, s.p = .pointer (some ⟨B, 0, none⟩) ∧ ¬ O B ∧ Seg w B 0 [.string s.k, .slice none 0 0, .bool false] ∧ s.k.size ≤ maxLen
theorem Gn.keep : KeepP Gn := fun O O' S w w' s h hk hs ho => by
  obtain ⟨h1, B, h2, hn, hg, hm⟩ := h
  have hlt := Seg.lt hg
  exact ⟨h1, B, h2, fun q => hn (ho B hlt q), hg.keep (Kc.of_kp hk hs) hn, hm⟩
/-- what a subclass selector of the outer kind says: a name, or a list of a kind -/
abbrev SK := ByteArray ⊕ (Int × List (Ck ByteArray))
/-- a list's compounds, in the order in which they were made (ms: marks) -/
def RIn (O : Nat → Prop) (w : World) (g : Nat) (ms : Nat → Nat) (rs : List MR) (l : List (Ck ByteArray)) : Prop := rs.length = l.length ∧ ∀ (k : Nat) (r : MR) (x : Ck ByteArray), rs[k]? = some r → l[k]? = some x → Seg w g (k * 6) r.cells ∧ RCk Gn (fun b => O b ∨ b < ms k ∨ ms (k + 1) ≤ b) w r x
theorem RIn.keep {O O' S : Nat → Prop} {w w' : World} {g : Nat} {ms : Nat → Nat} {rs : List MR} {l : List (Ck ByteArray)} (h : RIn O w g ms rs l) (hgO : ¬ O g) (hk : Kp S w w') (hs : ∀ b, b < w.heap.size → S b → O b) (ho : ∀ b, b < w.heap.size → O' b → O b) : RIn O' w' g ms rs l := by
  refine ⟨h.1, fun k r x hr hx => ?_⟩
  obtain ⟨h1, h2⟩ := h.2 k r x hr hx
  exact ⟨h1.keep (Kc.of_kp hk hs) hgO, h2.keep Gn.keep hk (fun b hb q => .inl (hs b hb q)) (fun b hb q => q.imp (ho b hb) id)⟩
def G1 (O : Nat → Prop) (w : World) (s : SubR SK) : Prop := match s.k with
  | .inl nm => Gn O w ⟨s.t, s.p, nm⟩
  | .inr (kd, l) => s.t = 128 ∧ ∃ (Z Y c1 g c : Nat) (ms : Nat → Nat) (rs : List MR), s.p = .pointer (some ⟨Z, 0, none⟩) ∧ ¬ O Z ∧ ¬ O Y ∧ ¬ O g ∧ Seg w Z 0 [.slice (some ⟨Y, 0, none⟩) 1 c1, .string ⟨#[]⟩, .string ⟨#[]⟩, .int .u8 kd] ∧ w.cell? ⟨Y, 0, none⟩ = some (.slice (some ⟨g, 0, none⟩) l.length c) ∧ g < w.heap.size ∧ l.length ≤ c ∧ (∀ k, ms k ≤ ms (k + 1)) ∧ RIn O w g ms rs l
theorem G1.keep : KeepP G1 := fun O O' S w w' s h hk hs ho => by
  obtain ⟨t, p, k⟩ := s
  cases k with
  | inl nm => exact Gn.keep _ _ _ _ _ _ h hk hs ho
  | inr q =>
    obtain ⟨kd, l⟩ := q
    obtain ⟨h1, Z, Y, c1, g, c, ms, rs, h2, h3, h4, h5, h6, h7, h7', h8, h9, h10⟩ := h
    have hZ := Seg.lt h6
    have hY := block_lt_of_cell h7
    exact ⟨h1, Z, Y, c1, g, c, ms, rs, h2, fun q => h3 (ho Z hZ q), fun q => h4 (ho Y hY q), fun q => h5 (ho g h7' q), h6.keep (Kc.of_kp hk hs) h3, hk.cell h7 (fun q => h4 (hs Y hY q)), Nat.lt_of_lt_of_le h7' hk.size, h8, h9, h10.keep h5 hk hs ho⟩
theorem info111 : (Try.prog.info? 111).map (fun i => (i.zero.map (·.cells), i.size, i.bytes)) = some (some #[.nilIface, .int .i32 0, .int .i32 0], 3, 24) := by kernel_rfl
theorem info102 : (Try.prog.info? 102).map (fun i => (i.zero.map (·.cells), i.size, i.bytes)) = some (some #[.pointer none, .slice none 0 0, .slice none 0 0, .int .i32 0, .int .u8 0, .bool false], 6, 72) := by kernel_rfl
theorem info32 : (Try.prog.info? 32).map (fun i => (i.zero.map (·.cells), i.size, i.bytes)) = some (some #[.slice none 0 0], 1, 24) := by kernel_rfl
theorem info84 : (Try.prog.info? 84).map (fun i => (i.zero.map (·.cells), i.size, i.bytes)) = some (some #[.int .i32 0], 1, 4) := by kernel_rfl
def SubP (nm : ByteArray) (w : World) (e : Ending) (w' : World) : Prop := ∃ s : SubR ByteArray, e = .returned (.agg s.arr) ∧ s.k = nm ∧ Gn (fun b => b < w.heap.size) w' s ∧ Below w.heap.size w w'
theorem bare34_c (nm : ByteArray) (hn : nm.size ≤ maxLen) (w : World) : Calls Try.prog 34 #[.string nm] w (SubP nm w) := by
  go_enter Try.func34, Try.ntmps34
  go_wp2
  exact bodyPost_ret (v := .agg (SubR.arr (⟨124, .pointer (some ⟨w.heap.size + 1, 0, none⟩), nm⟩ : SubR ByteArray))) (by simp [results, Try.results34, go_sem]) rfl ⟨_, rfl, rfl, ⟨rfl, _, rfl, (by show ¬ _ < _; omega), segN _ _ _ _, hn⟩, (ba _ _).alloc (by simp) _⟩
def NestP (n : Nat) (w : World) (e : Ending) (w' : World) : Prop := ∃ v, e = .returned v ∧ NnR (fun b => b < w.heap.size) w' v n ∧ Below w.heap.size w w'
theorem nest20_c (n : Nat) (hn : n ≤ 1048576) (w : World) : Calls Try.prog 20 #[.int .i64 n] w (NestP n w) := by
  by_cases h0 : n = 0
  · subst h0
    have q : Calls Try.prog 20 #[.int .i64 0] w (NestP 0 w) := by
      go_enter Try.func20, Try.ntmps20
      go_wp2
      go_ret
      exact ⟨_, rfl, ⟨none, 0, rfl, fun i hi => by omega⟩, Below.refl _ _⟩
    exact q
  · have q : ((n : Int) == 0) = false := by simp; omega
    have mk := make_z (P := Try.prog) (b := 4) #[.int .i32 0] Try.underlying98 info84 n (by omega) (by omega)
    simp only [Nat.mul_one] at mk
    go_enter Try.func20, Try.ntmps20
    go_wp2
    exact bodyPost_ret (v := .slice (some ⟨w.heap.size, 0, none⟩) n n) (by simp [results, Try.results20, go_sem]) rfl ⟨_, rfl, ⟨_, n, rfl, fun i hi => ⟨_, rfl, (by show ¬ _ < _; omega), by
      rw [made_at w #[.int .i32 0] n 84 i hi]
      have : i % (#[Value.int .i32 0]).size = 0 := by show i % 1 = 0; omega
      rw [this]; rfl⟩⟩, ba _ _⟩
def TypP (s : ByteArray) (w : World) (e : Ending) (w' : World) : Prop := ∃ v, e = .returned v ∧ TyR (fun b => b < w.heap.size) w' v (some s) ∧ (∃ B, v = .pointer (some ⟨B, 0, none⟩)) ∧ Below w.heap.size w w'
theorem type19_c (c : Int) (h0 : 0 ≤ c) (hc : c ≤ 255) (w : World) : Calls Try.prog 19 #[.int .u8 c] w (TypP (bs [letZ c]) w) := by
  have C23 := Lib.hid (let23_c c h0 hc w)
  go_enter Try.func19, Try.ntmps19
  go_wp2_with (go_at_call 23; (with_reducible refine C23.out.mono ?_); rintro e w7 ⟨rfl, b7⟩; replace b7 := Lib.hid b7)
  have z := b7.out.size
  exact bodyPost_ret (v := .pointer (some ⟨w7.heap.size, 0, none⟩)) (by simp [results, Try.results19, go_sem]) rfl ⟨_, rfl, ⟨_, rfl, (by show ¬ _ < _; omega), Seg.new _ _ _⟩, ⟨_, rfl⟩, b7.out.trans ((ba _ _).mono z)⟩
def digZ (k : Int) : ByteArray := if k = 0 then ⟨#[48]⟩ else if k = 3 then ⟨#[49]⟩ else if k = 2 then ⟨#[50]⟩ else if k = 4 then ⟨#[51]⟩ else if k = 9 then ⟨#[52]⟩ else if k = 1 then ⟨#[53]⟩ else ⟨#[57]⟩
theorem dig35_c (k : Int) (hk : k = 0 ∨ k = 3 ∨ k = 2 ∨ k = 4 ∨ k = 9 ∨ k = 1) (w : World) : Calls Try.prog 35 #[.int .u8 k] w (RetS (.string (digZ k)) w) := by
  rcases hk with rfl | rfl | rfl | rfl | rfl | rfl
  all_goals
    simp only [digZ, show ((3 : Int) = 0) = False by decide, show ((2 : Int) = 0) = False by decide, show ((2 : Int) = 3) = False by decide, show ((4 : Int) = 0) = False by decide, show ((4 : Int) = 3) = False by decide, show ((4 : Int) = 2) = False by decide, show ((9 : Int) = 0) = False by decide, show ((9 : Int) = 3) = False by decide, show ((9 : Int) = 2) = False by decide, show ((9 : Int) = 4) = False by decide, show ((1 : Int) = 0) = False by decide, show ((1 : Int) = 3) = False by decide, show ((1 : Int) = 2) = False by decide, show ((1 : Int) = 4) = False by decide, show ((1 : Int) = 9) = False by decide, if_true, if_false]
    go_enter Try.func35, Try.ntmps35
    go_wp2
    go_ret
    exact ⟨rfl, rfl⟩
end Go.Proofs.Ytjigljpodkfchad
