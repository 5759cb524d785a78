/- FnDeadRuleManglerFreshForgets: how the mangler stands. -/
import Derived.Test.YtidmdcadejfjhaaDri
import Derived.Maps.Own
import Derived.Maps.OwnSet
import Derived.Maps.Views
set_option linter.unusedVariables false
set_option linter.unusedSimpArgs false
namespace Go.Proofs.Ytidmdcadejfjhaa
open Go.RowKit
open Go.Maps (Keyed keyOf_int_mk int_keyed atKey_put_same atKey_put_other)
set_option maxRecDepth 100000
set_option maxHeartbeats 4000000
theorem hc_rng (s h : Int) : 0 ≤ hc s h ∧ hc s h < 4294967296 := by
  unfold hc bits
  simp [IntKind.wrap, IntKind.bits, IntKind.signed]
  omega
abbrev KeyR := List (List (List K1))
theorem hRule_rng (k : KeyR) : 0 ≤ hRule k ∧ hRule k < 4294967296 := hc_rng _ _
structure EntR where
  r : RlR
  cc : Nat
abbrev EntR.arr (e : EntR) : Array Value := #[.iface 64 (.pointer (some ⟨e.r.B, 0, none⟩)), .int .u32 e.cc]
def EntR.cells (e : EntR) : List Value := e.arr.toList
theorem EntR.len (e : EntR) : e.cells.length = 2 := rfl
theorem EntR.one (t : EntR) : t.arr.all (·.oneCell') = true := by simp [Value.oneCell']
structure ERow where
  a : Option Addr
  c : Nat
  ls : List EntR
abbrev ERow.v (e : ERow) : Value := .slice e.a e.ls.length e.c
abbrev callC (si : Int) : List Value := [.slice none 0 0, .int .u32 si]
def RV (v : Value) : Option (DataW Value × List MemPlace) := some (.held v, [])
abbrev zEn : Value := .agg #[.slice none 0 0]
structure MS (O : Nat → Prop) (L Rm bm : Nat) (ca : Option Addr) (cc : Nat) (sis : List Int) (E : Int → ERow) (S : List KeyR) (N : Nat) (w : World) : Prop where
  c0 : w.cell? ⟨Rm, 0, none⟩ = some (.map (some bm))
  c1 : w.cell? ⟨Rm, 1, none⟩ = some (.slice ca sis.length cc)
  room : Room w Rm 7
  calls : w.ownsRow L 63 2 (.slice ca sis.length cc) sis.length (flat callC sis)
  map : ∃ D : DataW Value, w.ownsMap Try.prog 35 RV bm N D ∧ ∀ h, 0 ≤ h → h < 4294967296 → D.atKey (.int .u32 h) (.held zEn) = .held (.agg #[(E h).v])
  rows : ∀ h, w.ownsRow L 74 2 (E h).v (E h).ls.length (flat EntR.cells (E h).ls)
  apart : ∀ h h', h ≠ h' → ∀ b, Ob (E h).v b → ¬ Ob (E h').v b
  data : ∀ h, ∀ e ∈ (E h).ls, GRl O w e.r ∧ e.cc < sis.length
  seen : ∀ key, (∃ e ∈ (E (hRule key)).ls, e.r.key = key) ↔ key ∈ S
  len : ∀ h, (E h).ls.length ≤ N
  oR : O Rm
  oM : O bm
  oC : ∀ b, Ob (.slice ca sis.length cc) b → O b
  oE : ∀ h b, Ob (E h).v b → O b
  lR : L ≤ Rm
  lM : L ≤ bm
  nM : Rm ≠ bm
  nC : ∀ b, Ob (.slice ca sis.length cc) b → b ≠ Rm ∧ b ≠ bm
  nE : ∀ h b, Ob (E h).v b → b ≠ Rm ∧ b ≠ bm
/-- a block of the mangler's own -/
def Dy (Rm bm : Nat) (ca : Option Addr) (cc : Nat) (sis : List Int) (E : Int → ERow) (b : Nat) : Prop := b = Rm ∨ b = bm ∨ Ob (.slice ca sis.length cc) b ∨ ∃ h, Ob (E h).v b
theorem map_kept {w w' : World} {T : Nat → Prop} {b n : Nat} {D : DataW Value} (h : w.ownsMap Try.prog 35 RV b n D) (hk : Kp T w w') (hT : ¬ T b) : w'.ownsMap Try.prog 35 RV b n D := by
  obtain ⟨es, clock, hb, rest⟩ := h
  refine ⟨es, clock, ?_, rest⟩
  rw [hk.block _ (Array.getElem?_eq_some_iff.1 hb).1 hT]
  exact hb
theorem room_kept {w w' : World} {T : Nat → Prop} {b n : Nat} (h : Room w b n) (hk : Kp T w w') (hT : ¬ T b) : Room w' b n := fun j hj => by
  obtain ⟨v, h1, h2⟩ := h j hj
  exact ⟨v, hk.cell h1 hT, hk.froz h1 h2 hT⟩
section
variable {O : Nat → Prop} {L Rm bm : Nat} {ca : Option Addr} {cc : Nat} {sis : List Int} {E : Int → ERow} {S : List KeyR} {N : Nat} {w w' : World}
theorem MS.dyL (h : MS O L Rm bm ca cc sis E S N w) {b : Nat} (hb : Dy Rm bm ca cc sis E b) : L ≤ b := by
  rcases hb with rfl | rfl | q | ⟨k, q⟩
  · exact h.lR
  · exact h.lM
  · exact (h.calls.lt b q).1
  · exact ((h.rows k).lt b q).1
theorem MS.dyO (h : MS O L Rm bm ca cc sis E S N w) {b : Nat} (hb : Dy Rm bm ca cc sis E b) : O b := by
  rcases hb with rfl | rfl | q | ⟨k, q⟩
  · exact h.oR
  · exact h.oM
  · exact h.oC b q
  · exact h.oE k b q
theorem MS.dylt (h : MS O L Rm bm ca cc sis E S N w) {b : Nat} (hb : Dy Rm bm ca cc sis E b) : b < w.heap.size := by
  rcases hb with rfl | rfl | q | ⟨k, q⟩
  · exact block_lt_of_cell h.c0
  · obtain ⟨D, hD, -⟩ := h.map
    exact hD.lt
  · exact (h.calls.lt b q).2
  · exact ((h.rows k).lt b q).2
theorem MS.kp {T : Nat → Prop} (h : MS O L Rm bm ca cc sis E S N w) (hk : Kp T w w') (hT : ∀ b, b < w.heap.size → T b → O b ∧ ¬ Dy Rm bm ca cc sis E b) : MS O L Rm bm ca cc sis E S N w' := by
  have hR : ¬ T Rm := fun q => (hT _ (h.dylt (.inl rfl)) q).2 (.inl rfl)
  have hM : ¬ T bm := fun q => (hT _ (h.dylt (.inr (.inl rfl))) q).2 (.inr (.inl rfl))
  obtain ⟨D, hD, hD2⟩ := h.map
  exact { h with
    c0 := hk.cell h.c0 hR
    c1 := hk.cell h.c1 hR
    room := room_kept h.room hk hR
    calls := hk.own h.calls (fun k q q' => (hT _ (h.calls.lt k q).2 q').2 (.inr (.inr (.inl q))))
    map := ⟨D, map_kept hD hk hM, hD2⟩
    rows := fun x => hk.own (h.rows x) (fun k q q' => (hT _ ((h.rows x).lt k q).2 q').2 (.inr (.inr (.inr ⟨x, q⟩))))
    data := fun x e he => ⟨GRl.keep _ _ _ _ _ (h.data x e he).1 (Kc.of_kp hk (fun b hb q => (hT b hb q).1)) (fun _ _ q => q), (h.data x e he).2⟩ }
theorem MS.below (h : MS O L Rm bm ca cc sis E S N w) (hb : Below w.heap.size w w') : MS O L Rm bm ca cc sis E S N w' := h.kp (T := fun _ => False) (Kp.of hb) (fun _ _ q => q.elim)
/-- other data may be asked to be kept -/
theorem MS.turn {O' : Nat → Prop} (h : MS O L Rm bm ca cc sis E S N w) (h1 : ∀ b, b < w.heap.size → O' b → O b) (h2 : ∀ b, Dy Rm bm ca cc sis E b → O' b) : MS O' L Rm bm ca cc sis E S N w :=
  { h with
    data := fun x e he => ⟨GRl.keep _ _ _ _ _ (h.data x e he).1 (fun _ _ q _ => q) h1, (h.data x e he).2⟩
    oR := h2 _ (.inl rfl)
    oM := h2 _ (.inr (.inl rfl))
    oC := fun b q => h2 _ (.inr (.inr (.inl q)))
    oE := fun x b q => h2 _ (.inr (.inr (.inr ⟨x, q⟩))) }
theorem MS.check (h : MS O L Rm bm ca cc sis E S N w) (j : Nat) (hj : 2 ≤ j) (v : Value) : MS O L Rm bm ca cc sis E S N (w.setCell ⟨Rm, j, none⟩ v) := by
  have hk : Kp (fun b => b = Rm) w (w.setCell ⟨Rm, j, none⟩ v) := (Kp.refl w).set _ _ (.inl rfl)
  obtain ⟨D, hD, hD2⟩ := h.map
  exact { h with
    c0 := by rw [co (by intro q; injection q; omega)]; exact h.c0
    c1 := by rw [co (by intro q; injection q; omega)]; exact h.c1
    room := h.room.setA _ _
    calls := hk.own h.calls (fun k q q' => (h.nC k q).1 q')
    map := ⟨D, map_kept hD hk (fun q => h.nM q.symm), hD2⟩
    rows := fun x => hk.own (h.rows x) (fun k q q' => (h.nE x k q).1 q')
    data := fun x e he => ⟨GRl.keep _ _ _ _ _ (h.data x e he).1 (Kc.of_kp hk (fun b hb q => by rw [q]; exact h.oR)) (fun _ _ q => q), (h.data x e he).2⟩ }
theorem MS.insert {w1 w2 w3 : World} {D : DataW Value} {h0 : Int} {e : EntR} {a' : Option Addr} {c' : Nat} {T : Nat → Prop} (h : MS O L Rm bm ca cc sis E S N w) (hD1 : w.ownsMap Try.prog 35 RV bm N D) (hD : ∀ h, 0 ≤ h → h < 4294967296 → D.atKey (.int .u32 h) (.held zEn) = .held (.agg #[(E h).v]))
    (hr0 : 0 ≤ h0) (hr1 : h0 < 4294967296) (he : hRule e.r.key = h0) (hG : GRl O w e.r) (hcc : e.cc < sis.length)
    (hO1 : w1.ownsRow L 74 2 (.slice a' ((E h0).ls.length + 1) c') ((E h0).ls.length + 1) (flat EntR.cells (E h0).ls ++ e.cells)) (k01 : Kp (Ob (E h0).v) w w1) (hnew : ∀ b, Ob (.slice a' ((E h0).ls.length + 1) c') b → Ob (E h0).v b ∨ w.heap.size ≤ b)
    (k12 : Kp T w1 w2) (hT : ∀ b, b < w1.heap.size → T b → O b ∧ ¬ Dy Rm bm ca cc sis E b ∧ ¬ Ob (.slice a' ((E h0).ls.length + 1) c') b)
    (hM3 : w3.ownsMap Try.prog 35 RV bm (N + 1) (D.put (.int .u32 h0) (.held (.agg #[.slice a' ((E h0).ls.length + 1) c'])))) (k23 : Kp (fun b => b = bm) w2 w3) (hOn : ∀ b, w.heap.size ≤ b → O b) :
    MS O L Rm bm ca cc sis (fun x => if x = h0 then ⟨a', c', (E h0).ls ++ [e]⟩ else E x) (e.r.key :: S) (N + 1) w3 := by
  have hlen : ((E h0).ls ++ [e]).length = (E h0).ls.length + 1 := by simp
  have hv0 : ERow.v ⟨a', c', (E h0).ls ++ [e]⟩ = .slice a' ((E h0).ls.length + 1) c' := by show Value.slice a' _ c' = _; rw [hlen]
  have hsz := k01.size
  have hR1 : ¬ Ob (E h0).v Rm := fun q => (h.nE h0 _ q).1 rfl
  have hM1 : ¬ Ob (E h0).v bm := fun q => (h.nE h0 _ q).2 rfl
  have ltR := h.dylt (b := Rm) (.inl rfl)
  have ltM := h.dylt (b := bm) (.inr (.inl rfl))
  have hR2 : ¬ T Rm := fun q => (hT _ (by omega) q).2.1 (.inl rfl)
  have hnv : ∀ b, Ob (.slice a' ((E h0).ls.length + 1) c') b → b ≠ Rm ∧ b ≠ bm := fun b q => by
    rcases hnew b q with q | q
    · exact h.nE h0 b q
    · exact ⟨by omega, by omega⟩
  have hval : ∀ x b, Ob ((fun x => if x = h0 then (⟨a', c', (E h0).ls ++ [e]⟩ : ERow) else E x) x).v b → Ob (E x).v b ∨ (x = h0 ∧ Ob (.slice a' ((E h0).ls.length + 1) c') b) := fun x b q => by
    by_cases e : x = h0
    · simp only [if_pos e] at q
      rw [hv0] at q
      exact .inr ⟨e, q⟩
    · simp only [if_neg e] at q
      exact .inl q
  have kc : ∀ r : RlR, GRl O w r → GRl O w3 r := fun r hg => by
    refine GRl.keep _ _ _ _ _ (GRl.keep _ _ _ _ _ (GRl.keep _ _ _ _ _ hg (Kc.of_kp k01 (fun b _ q => h.oE h0 b q)) (fun _ _ q => q)) (Kc.of_kp k12 (fun b hb q => (hT b hb q).1)) (fun _ _ q => q)) (Kc.of_kp k23 (fun b _ q => by rw [q]; exact h.oM)) (fun _ _ q => q)
  exact {
    c0 := k23.cell (k12.cell (k01.cell h.c0 hR1) hR2) h.nM
    c1 := k23.cell (k12.cell (k01.cell h.c1 hR1) hR2) h.nM
    room := room_kept (room_kept (room_kept h.room k01 hR1) k12 hR2) k23 h.nM
    calls := k23.own (k12.own (k01.own h.calls (own_ne h.calls (h.rows h0) (by decide))) (fun k q q' => (hT _ (by have := (h.calls.lt k q).2; omega) q').2.1 (.inr (.inr (.inl q))))) (fun k q q' => (h.nC k q).2 q')
    map := ⟨_, hM3, fun x hx0 hx1 => by
      by_cases e : x = h0
      · subst e
        rw [atKey_put_same hD1.isMap (show WideAt.IsKeyLit (Lit.int .u32 x) from trivial)]
        simp only [if_pos]
        rw [hv0]
      · simp only [if_neg e]
        rw [atKey_put_other (by intro q; injection q with _ q; exact e q)]
        exact hD x hx0 hx1⟩
    rows := fun x => by
      by_cases e : x = h0
      · subst e
        simp only [if_pos]
        rw [hv0, hlen, ← flat_add]
        exact k23.own (k12.own hO1 (fun k q q' => (hT _ (hO1.lt k q).2 q').2.2 q)) (fun k q q' => (hnv k q).2 q')
      · simp only [if_neg e]
        exact k23.own (k12.own (k01.own (h.rows x) (h.apart x h0 e)) (fun k q q' => (hT _ (by have := ((h.rows x).lt k q).2; omega) q').2.1 (.inr (.inr (.inr ⟨x, q⟩))))) (fun k q q' => (h.nE x k q).2 q')
    apart := fun x y hxy b q q' => by
      rcases hval x b q with p | ⟨e1, p⟩ <;> rcases hval y b q' with p' | ⟨e2, p'⟩
      · exact h.apart x y hxy b p p'
      · rcases hnew b p' with p2 | p2
        · exact h.apart x h0 (by rw [← e2]; exact hxy) b p p2
        · have := ((h.rows x).lt b p).2; omega
      · rcases hnew b p with p2 | p2
        · exact h.apart h0 y (by rw [← e1]; exact hxy) b p2 p'
        · have := ((h.rows y).lt b p').2; omega
      · exact hxy (e1.trans e2.symm)
    data := fun x e' he' => by
      by_cases e1 : x = h0
      · simp only [if_pos e1] at he'
        rcases List.mem_append.1 he' with hm | hm
        · exact ⟨kc _ (h.data h0 e' hm).1, (h.data h0 e' hm).2⟩
        · rw [List.mem_singleton] at hm
          subst hm
          exact ⟨kc _ hG, hcc⟩
      · simp only [if_neg e1] at he'
        exact ⟨kc _ (h.data x e' he').1, (h.data x e' he').2⟩
    seen := fun key => by
      rw [List.mem_cons, ← h.seen key]
      by_cases e1 : hRule key = h0
      · simp only [if_pos e1]
        constructor
        · rintro ⟨e', hm, hk⟩
          rcases List.mem_append.1 hm with hm | hm
          · exact .inr ⟨e', by rw [e1]; exact hm, hk⟩
          · rw [List.mem_singleton] at hm
            subst hm
            exact .inl hk.symm
        · rintro (hk | ⟨e', hm, hk⟩)
          · exact ⟨e, List.mem_append.2 (.inr (List.mem_singleton.2 rfl)), hk.symm⟩
          · exact ⟨e', List.mem_append.2 (.inl (by rw [e1] at hm; exact hm)), hk⟩
      · simp only [if_neg e1]
        constructor
        · exact fun q => .inr q
        · rintro (hk | q)
          · exact absurd (by rw [hk]; exact he) e1
          · exact q
    len := fun x => by
      by_cases e1 : x = h0
      · simp only [if_pos e1]
        rw [hlen]
        have := h.len h0
        omega
      · simp only [if_neg e1]
        have := h.len x
        omega
    oR := h.oR
    oM := h.oM
    oC := h.oC
    oE := fun x b q => by
      rcases hval x b q with q | ⟨-, q⟩
      · exact h.oE x b q
      · rcases hnew b q with q | q
        · exact h.oE h0 b q
        · exact hOn b q
    lR := h.lR
    lM := h.lM
    nM := h.nM
    nC := h.nC
    nE := fun x b q => by
      rcases hval x b q with q | ⟨-, q⟩
      · exact h.nE x b q
      · exact hnv b q }
end
end Go.Proofs.Ytidmdcadejfjhaa
