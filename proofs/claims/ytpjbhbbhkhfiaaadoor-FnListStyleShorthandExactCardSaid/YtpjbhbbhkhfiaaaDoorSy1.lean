/- A parser's table of symbols: words on it; a new parser; what is read off it. -/
import Derived.Test.YtpjbhbbhkhfiaaaDoorAn
import Derived.Test.YtpjbhbbhkhfiaaaDoorMk
import Derived.Test.YtpjbhbbhkhfiaaaDoorArg
import Derived.Maps.Ext
import Derived.Maps.Own
import Derived.Maps.OwnOps
import Derived.Maps.OwnSet
import Derived.OwnWalk
set_option linter.unusedVariables false
set_option linter.unusedSimpArgs false
namespace Go.Proofs.YtpjbhbbhkhfiaaaDoor
open Go.RowKit
open Go.Maps (Keyed string_keyed)
theorem lawS : Keyed Tryd.prog 9 := string_keyed Tryd.underlying9
abbrev slit (s : ByteArray) : Lit := .string s.data.toList
theorem slit_inj {a b : ByteArray} (h : slit a = slit b) : a = b := by
  obtain ⟨⟨x⟩⟩ := a
  obtain ⟨⟨y⟩⟩ := b
  injection h with h
  simp at h
  subst h; rfl
theorem slit_key {s : ByteArray} (hs : s.size ≤ maxLen) : keyOf Tryd.prog 9 (.string s) = some (slit s) := Go.WideMaps.keyOf_string_mk Tryd.underlying9 hs
theorem slit_is (s : ByteArray) : WideAt.IsKeyLit (slit s) := trivial
/-- a place in the source (always the first), with the symbol's number -/
abbrev locV (i : Int) : Value := .agg #[.int .i32 0, .int .u32 0, .int .u32 i]
def locElem (v : Value) : Option (DataW Unit × List MemPlace) :=
  match v with
  | .agg cs => match cs.toList with
    | [.int .i32 l, .int .u32 s, .int .u32 i] => if l = 0 ∧ s = 0 then some (.lit (.int .u32 i), []) else none
    | _ => none
  | _ => none
theorem locElem_mk (i : Int) : locElem (locV i) = some (.lit (.int .u32 i), []) := by simp [locElem]
theorem locElem_inv {v : Value} {i : Int} {ps : List MemPlace} (h : locElem v = some (.lit (.int .u32 i), ps)) : v = locV i := by
  unfold locElem at h
  split at h
  · rename_i cs
    split at h
    · rename_i l s j e
      split at h
      · rename_i hls
        obtain ⟨rfl, rfl⟩ := hls
        simp only [Option.some.injEq, Prod.mk.injEq, DataW.lit.injEq, Lit.int.injEq, true_and] at h
        obtain ⟨rfl, -⟩ := h
        obtain ⟨ls⟩ := cs
        simp at e
        subst e; rfl
      · cases h
    · cases h
  · cases h
/-- a symbol -/
structure SyR where
  name : ByteArray
  uses : Int
abbrev symC (k : Int) (r : SyR) : List Value := [.pointer none, .string r.name, .int .u32 4294967295, .int .u32 4294967295, .int .u32 r.uses, .int .u32 0, .int .u32 0, .int .u16 0, .int .u8 k, .int .u8 0]
theorem symC_len (k : Int) (r : SyR) : (symC k r).length = 10 := rfl
abbrev locC (i : Nat) : List Value := [.int .i32 0, .int .u32 0, .int .u32 (i : Int)]
theorem locC_len (i : Nat) : (locC i).length = 3 := rfl
/-- what a map of names holds -/
structure Names (D : DataW Unit) (l : List SyR) : Prop where
  is : Maps.IsMap D
  on : ∀ (i : Nat) (r : SyR), l[i]? = some r → Maps.has D (slit r.name) = true ∧ ∀ z, D.atKey (slit r.name) z = .lit (.int .u32 (i : Int))
  off : ∀ s : ByteArray, (∀ r ∈ l, r.name ≠ s) → Maps.has D (slit s) = false
theorem Names.nil : Names (.map []) [] := ⟨Maps.isMap_empty, fun i r h => by simp at h, fun _ _ => rfl⟩
theorem Names.add {D : DataW Unit} {l : List SyR} (h : Names D l) (s : ByteArray) (u : Int) (hs : ∀ r ∈ l, r.name ≠ s) : Names (D.put (slit s) (.lit (.int .u32 (l.length : Int)))) (l ++ [⟨s, u⟩]) := by
  refine ⟨h.is.put _ _, fun i r hi => ?_, fun t ht => ?_⟩
  · by_cases hl : i < l.length
    · rw [List.getElem?_append_left hl] at hi
      have hne : slit r.name ≠ slit s := fun e => hs r (List.mem_of_getElem? hi) (slit_inj e)
      rw [Maps.has_put_other hne]
      refine ⟨(h.on i r hi).1, fun z => ?_⟩
      rw [Maps.atKey_put_other hne]
      exact (h.on i r hi).2 z
    · have hll : i = l.length := by
        have := (List.getElem?_eq_some_iff.1 hi).1
        simp at this; omega
      subst hll
      simp at hi
      subst hi
      exact ⟨Maps.has_put_same h.is (slit_is s) _, fun z => Maps.atKey_put_same h.is (slit_is s) _ z⟩
  · have h1 : s ≠ t := ht ⟨s, u⟩ (by simp)
    have hne : slit t ≠ slit s := fun e => h1 (slit_inj e).symm
    rw [Maps.has_put_other hne]
    exact h.off t (fun r hr => ht r (by simp [hr]))
theorem Names.set {D : DataW Unit} {l : List SyR} (h : Names D l) (i : Nat) (r : SyR) (u : Int) (hi : l[i]? = some r) : Names D (l.set i ⟨r.name, u⟩) := by
  have hnm : ∀ j : Nat, ((l.set i ⟨r.name, u⟩)[j]?).map SyR.name = (l[j]?).map SyR.name := fun j => by
    rw [List.getElem?_set]
    by_cases e : i = j
    · subst e
      have hlt := (List.getElem?_eq_some_iff.1 hi).1
      rw [if_pos rfl, if_pos hlt, hi]; rfl
    · rw [if_neg e]
  refine ⟨h.is, fun j q hj => ?_, fun t ht => h.off t (fun q hq => ?_)⟩
  · have := hnm j
    rw [hj] at this
    cases hl : l[j]? with
    | none => rw [hl] at this; cases this
    | some p =>
      rw [hl] at this
      simp only [Option.map_some, Option.some.injEq] at this
      rw [this]
      exact h.on j p hl
  · obtain ⟨j, hj⟩ := List.getElem?_of_mem hq
    have := hnm j
    rw [hj] at this
    cases hl : (l.set i ⟨r.name, u⟩)[j]? with
    | none => rw [hl] at this; cases this
    | some p =>
      rw [hl] at this
      simp only [Option.map_some, Option.some.injEq] at this
      rw [← this]
      exact ht p (List.mem_of_getElem? hl)
theorem Names.uniq {D : DataW Unit} {l : List SyR} (h : Names D l) {i j : Nat} {a b : SyR} (hi : l[i]? = some a) (hj : l[j]? = some b) (e : a.name = b.name) : i = j := by
  have h1 := (h.on i a hi).2 .nil
  have h2 := (h.on j b hj).2 .nil
  rw [e, h2] at h1
  injection h1 with h1
  injection h1 with _ h1
  omega
def kd (mk : Bool) : Int := if mk then 26 else 25
/-- the parser's block B with its two maps, its symbols' row v1 and its local symbols' row v2; S holds all blocks of it -/
structure PR (w : World) (S : Nat → Prop) (G B m1 m2 : Nat) (v1 v2 : Value) (mk : Bool) (l : List SyR) (D : DataW Unit) : Prop where
  sB : S B
  s1 : S m1
  s2 : S m2
  sv1 : ∀ k, v1.ownBlock = some k → S k
  sv2 : ∀ k, v2.ownBlock = some k → S k
  lS : ∀ k, S k → k < w.heap.size
  gS : ∀ k, S k → G ≤ k
  d1 : B ≠ m1
  d2 : B ≠ m2
  d3 : m1 ≠ m2
  dv1 : ∀ k, v1.ownBlock = some k → k ≠ B ∧ k ≠ m1 ∧ k ≠ m2
  dv2 : ∀ k, v2.ownBlock = some k → k ≠ B ∧ k ≠ m1 ∧ k ≠ m2
  dvv : ∀ k, v1.ownBlock = some k → v2.ownBlock ≠ some k
  c15 : w.cell? ⟨B, 15, none⟩ = some (.int .u32 0)
  c21 : w.cell? ⟨B, 21, none⟩ = some v1
  c23 : w.cell? ⟨B, 23, none⟩ = some v2
  c24 : w.cell? ⟨B, 24, none⟩ = some (.map (some m1))
  c25 : w.cell? ⟨B, 25, none⟩ = some (.map (some m2))
  c54 : w.cell? ⟨B, 54, none⟩ = some (.bool mk)
  f21 : w.frozen? ⟨B, 21, none⟩ = false
  f23 : w.frozen? ⟨B, 23, none⟩ = false
  o1 : w.ownsRow G 99 10 v1 l.length (flat (symC (kd mk)) l)
  o2 : w.ownsRow G 103 3 v2 (if mk then l.length else 0) (flat locC (List.range (if mk then l.length else 0)))
  om : w.ownsMap Tryd.prog 9 locElem (if mk then m1 else m2) l.length D
  nm : Names D l
section
variable {w w' : World} {S : Nat → Prop} {G B m1 m2 : Nat} {v1 v2 : Value} {mk : Bool} {l : List SyR} {D : DataW Unit}
theorem PR.kept (h : PR w S G B m1 m2 v1 v2 mk l D) {T : Nat → Prop} (hk : Kp T w w') (hT : ∀ k, T k → ¬ S k) : PR w' S G B m1 m2 v1 v2 mk l D := by
  have nS : ∀ k, S k → ¬ T k := fun k hs ht => hT k ht hs
  exact { h with
    lS := fun k hs => Nat.lt_of_lt_of_le (h.lS k hs) hk.size
    c15 := hk.cell h.c15 (nS _ h.sB), c21 := hk.cell h.c21 (nS _ h.sB), c23 := hk.cell h.c23 (nS _ h.sB), c24 := hk.cell h.c24 (nS _ h.sB), c25 := hk.cell h.c25 (nS _ h.sB), c54 := hk.cell h.c54 (nS _ h.sB)
    f21 := hk.froz h.c21 h.f21 (nS _ h.sB), f23 := hk.froz h.c23 h.f23 (nS _ h.sB)
    o1 := hk.own h.o1 (fun k e => nS _ (h.sv1 k e)), o2 := hk.own h.o2 (fun k e => nS _ (h.sv2 k e))
    om := by
      obtain ⟨es, clock, hb, rest⟩ := h.om
      refine ⟨es, clock, ?_, rest⟩
      rw [hk.block _ (Array.getElem?_eq_some_iff.1 hb).1 (nS _ (by cases mk; exact h.s2; exact h.s1))]
      exact hb }
theorem PR.below (h : PR w S G B m1 m2 v1 v2 mk l D) (hb : Below w.heap.size w w') : PR w' S G B m1 m2 v1 v2 mk l D := h.kept (Kp.of (S := fun _ => False) hb) (fun _ h => h.elim)
end
/-- some parser at B -/
def PS (w : World) (S : Nat → Prop) (G B : Nat) (mk : Bool) (l : List SyR) : Prop := ∃ m1 m2 v1 v2 D, PR w S G B m1 m2 v1 v2 mk l D
theorem PS.below {w w' : World} {S : Nat → Prop} {G B : Nat} {mk : Bool} {l : List SyR} (h : PS w S G B mk l) (hb : Below w.heap.size w w') : PS w' S G B mk l := by
  obtain ⟨m1, m2, v1, v2, D, h⟩ := h
  exact ⟨m1, m2, v1, v2, D, h.below hb⟩
theorem PS.kept {w w' : World} {S T : Nat → Prop} {G B : Nat} {mk : Bool} {l : List SyR} (h : PS w S G B mk l) (hk : Kp T w w') (hT : ∀ k, T k → ¬ S k) : PS w' S G B mk l := by
  obtain ⟨m1, m2, v1, v2, D, h⟩ := h
  exact ⟨m1, m2, v1, v2, D, h.kept hk hT⟩
/-! a new parser -/
theorem PS.new (w : World) (mk : Bool) (cs : Array Value) (h15 : cs[15]? = some (.int .u32 0)) (h21 : cs[21]? = some (.slice none 0 0)) (h23 : cs[23]? = some (.slice none 0 0)) (h24 : cs[24]? = some (.map (some w.heap.size))) (h25 : cs[25]? = some (.map (some (w.heap.size + 1)))) (h54 : cs[54]? = some (.bool mk)) :
    PS (((w.alloc (.map #[] 0)).alloc (.map #[] 0)).alloc (.cells cs 88)) (fun k => w.heap.size ≤ k ∧ k < w.heap.size + 3) w.heap.size (w.heap.size + 1 + 1) mk [] := by
  have e1 : (w.alloc (.map #[] 0)).heap.size = w.heap.size + 1 := by simp
  have e2 : ((w.alloc (.map #[] 0)).alloc (.map #[] 0)).heap.size = w.heap.size + 1 + 1 := by simp
  have q : ∀ {i : Nat} {v : Value}, cs[i]? = some v → (((w.alloc (.map #[] 0)).alloc (.map #[] 0)).alloc (.cells cs 88)).cell? ⟨w.heap.size + 1 + 1, i, none⟩ = some v := fun h => by
    rw [← e2]; simpa [go_sem] using h
  have fr : ∀ i : Nat, (((w.alloc (.map #[] 0)).alloc (.map #[] 0)).alloc (.cells cs 88)).frozen? ⟨w.heap.size + 1 + 1, i, none⟩ = false := fun i => by
    rw [← e2]; simp [go_sem]
  have o1 : (((w.alloc (.map #[] 0)).alloc (.map #[] 0)).alloc (.cells cs 88)).ownsMap (H := Unit) Tryd.prog 9 locElem w.heap.size 0 (.map []) := ((World.ownsMap_made w _ _ _).alloc _).alloc _
  have o2 : (((w.alloc (.map #[] 0)).alloc (.map #[] 0)).alloc (.cells cs 88)).ownsMap (H := Unit) Tryd.prog 9 locElem (w.heap.size + 1) 0 (.map []) := by
    have := (World.ownsMap_made (H := Unit) (w.alloc (.map #[] 0)) Tryd.prog 9 locElem).alloc (.cells cs 88)
    rw [e1] at this; exact this
  refine ⟨w.heap.size, w.heap.size + 1, .slice none 0 0, .slice none 0 0, .map [], ?_⟩
  exact { sB := by constructor <;> omega
          s1 := by constructor <;> omega
          s2 := by constructor <;> omega
          sv1 := fun k h => by cases h
          sv2 := fun k h => by cases h
          lS := fun k h => by simp; omega
          gS := fun k h => h.1
          d1 := by omega
          d2 := by omega
          d3 := by omega
          dv1 := fun k h => by cases h
          dv2 := fun k h => by cases h
          dvv := fun k h => by cases h
          c15 := q h15, c21 := q h21, c23 := q h23, c24 := q h24, c25 := q h25, c54 := q h54
          f21 := fr 21, f23 := fr 23
          o1 := World.ownsRow_nil _ _ _ _
          o2 := by cases mk <;> exact World.ownsRow_nil _ _ _ _
          om := by cases mk; exact o2; exact o1
          nm := Names.nil }
def NewB (mk : Bool) (w : World) (e : Ending) (w' : World) : Prop :=
  ∃ B S, e = .returned (.pointer (some ⟨B, 0, none⟩)) ∧ Below w.heap.size w w' ∧ PS w' S w.heap.size B mk []
set_option maxRecDepth 100000 in
theorem new6_c (mk : Bool) (w : World) : Calls Tryd.prog 9 #[.bool mk] w (NewB mk w) := by
  have hmm := @run_makeMap Tryd.prog
  go_enter Tryd.func9, Tryd.ntmps9
  go_wp2
  go_ret
  exact ⟨_, _, rfl, ((ba w _).alloc (by simp) _).alloc (by simp; omega) _, PS.new w mk _ rfl rfl rfl rfl rfl rfl⟩
end Go.Proofs.YtpjbhbbhkhfiaaaDoor
