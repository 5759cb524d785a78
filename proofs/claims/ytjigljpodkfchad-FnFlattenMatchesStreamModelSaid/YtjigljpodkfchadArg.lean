/- Words on what a law's arguments lead to: rows of integers, of strings, of structs; arrays of floats. -/
import Derived.Test.YtjigljpodkfchadWd
import Derived.SliceStrings
import Derived.Deep.Slices
import Derived.Deep.Fields
import Derived.ChangeSame
import Derived.Laws.Cover2
set_option linter.unusedVariables false
set_option linter.unusedSimpArgs false
namespace Go.Proofs.Ytjigljpodkfchad
open Go.RowKit Go.ChangeShapes Go.WideShapes Go.Deep
/-- a slice of integers that came in -/
structure ArgI (k : IntKind) (w : World) (a : Option Addr) (len cap : Nat) (f : Nat → Int) : Prop where
  row : Row k w a len f
  le : len ≤ cap
  max : cap ≤ maxLen
  nil : a = none → len = 0 ∧ cap = 0
  wf : ∀ i, i < len → (Lit.int k (f i)).wf = true
/-- a slice of strings, read -/
def RowS (w : World) (A : Option Addr) (n : Nat) (f : Nat → ByteArray) : Prop := ∀ i, i < n → ∃ x, A = some x ∧ w.cell? (x.add i) = some (.string (f i))
theorem RowS.after {w w' : World} {A : Option Addr} {n : Nat} {f : Nat → ByteArray} (h : RowS w A n f) (hb : Below w.heap.size w w') : RowS w' A n f := fun i hi => by
  obtain ⟨x, e, hc⟩ := h i hi
  exact ⟨x, e, ac hb hc⟩
structure ArgS (w : World) (a : Option Addr) (len cap : Nat) (f : Nat → ByteArray) : Prop where
  row : RowS w a len f
  le : len ≤ cap
  max : cap ≤ maxLen
  nil : a = none → len = 0 ∧ cap = 0
  wf : ∀ i, i < len → (f i).size ≤ maxLen
/-- the kinds of fields -/
inductive FK where
  | int (k : IntKind)
  | str
  | bool
def FK.ok : FK → Value → Prop
  | .int k, v => ∃ n, v = .int k n ∧ (Lit.int k n).wf = true
  | .str, v => ∃ s : ByteArray, v = .string s ∧ s.size ≤ maxLen
  | .bool, v => ∃ b : Bool, v = .bool b
def FK.desc : FK → TypeDesc
  | .int q => .int q
  | .str => .string
  | .bool => .bool
def strV : Value → ByteArray | .string s => s | _ => ByteArray.empty
def boolV : Value → Bool | .bool b => b | _ => false
/-- a slice of structs that came in -/
structure ArgT (ks : List FK) (w : World) (a : Option Addr) (len cap : Nat) (g : Nat → Nat → Value) : Prop where
  row : ∀ i, i < len → ∃ x, a = some x ∧ ∀ j k, ks[j]? = some k → w.cell? (x.add (i * ks.length + j)) = some (g i j) ∧ k.ok (g i j)
  le : len ≤ cap
  max : cap ≤ maxLen
  nil : a = none → len = 0 ∧ cap = 0
section
variable {H : Type} {enc : TypeId × Value → H} {P : Program} {w : World} {base : Nat} {spare : Nat → Bool} {held : Bool}
theorem arg_ints {r : Reach} {b0 : Nat} {t e : TypeId} {k : IntKind} {v : Value} {d : DataW H} {p : List MemPlace} (ht : P.underlying t = some (.slice e)) (he : P.underlying e = some (.int k)) (hc : P.cellsOf e = 1)
    (hv : Value.okWide P w r b0 t v) (h : DataW.Trod enc P w base (fun _ => true) held t v d p) : ∃ a len cap f, v = .slice a len cap ∧ ArgI k w a len cap f := by
  obtain ⟨a, len, cap, rfl⟩ := okWide_slice ht hv
  obtain ⟨fuel, hf⟩ := h
  rcases open_ints ht he hc hf with ⟨hcs, _⟩ | ⟨x, l, c, zs, hcs, _, hl, hm, hz, _, hcell, hwz⟩
  · simp [Value.cells] at hcs
    obtain ⟨rfl, rfl, rfl⟩ := hcs
    exact ⟨_, _, _, fun _ => 0, rfl, fun i hi => by omega, by omega, by unfold maxLen; omega, fun _ => ⟨rfl, rfl⟩, fun i hi => by omega⟩
  · simp [Value.cells] at hcs
    obtain ⟨rfl, rfl, rfl⟩ := hcs
    simp only [if_true] at hz
    refine ⟨_, _, _, fun i => zs.getD i 0, rfl, fun i hi => ⟨x, rfl, hcell i (by omega)⟩, hl, hm, (fun h => by cases h), fun i hi => hwz _ ?_⟩
    have : i < zs.length := by omega
    simp [List.getD, this]
theorem arg_strings {r : Reach} {b0 : Nat} {t e : TypeId} {v : Value} {d : DataW H} {p : List MemPlace} (ht : P.underlying t = some (.slice e)) (he : P.underlying e = some .string) (hc : P.cellsOf e = 1)
    (hv : Value.okWide P w r b0 t v) (h : DataW.Trod enc P w base (fun _ => true) held t v d p) : ∃ a len cap f, v = .slice a len cap ∧ ArgS w a len cap f := by
  obtain ⟨a, len, cap, rfl⟩ := okWide_slice ht hv
  obtain ⟨fuel, hf⟩ := h
  rcases open_strings ht he hc hf with ⟨hcs, _⟩ | ⟨x, l, c, zs, hcs, _, hl, hm, hz, _, hcell, hwz⟩
  · simp [Value.cells] at hcs
    obtain ⟨rfl, rfl, rfl⟩ := hcs
    exact ⟨_, _, _, fun _ => ByteArray.empty, rfl, fun i hi => by omega, by omega, by unfold maxLen; omega, fun _ => ⟨rfl, rfl⟩, fun i hi => by omega⟩
  · simp [Value.cells] at hcs
    obtain ⟨rfl, rfl, rfl⟩ := hcs
    simp only [if_true] at hz
    refine ⟨_, _, _, fun i => zs.getD i ByteArray.empty, rfl, fun i hi => ⟨x, rfl, hcell i (by omega)⟩, hl, hm, (fun h => by cases h), fun i hi => hwz _ ?_⟩
    have : i < zs.length := by omega
    simp [List.getD, this]
theorem FK.of_trod {P : Program} {fuel : Nat} {t : TypeId} {v : Value} {y : DataW H × List MemPlace} (k : FK) (hk : P.underlying t = some k.desc) (h : DataW.trod enc P w base spare held fuel t [v] = some y) : k.ok v := by
  cases k with
  | int q => obtain ⟨n, e, _, hw⟩ := DataW.trod_int hk h; cases e; exact ⟨n, rfl, hw⟩
  | str => obtain ⟨n, e, _, hw⟩ := DataW.trod_string hk h; cases e; exact ⟨n, rfl, hw⟩
  | bool => obtain ⟨n, e, _⟩ := DataW.trod_bool hk h; cases e; exact ⟨n, rfl⟩
theorem arg_structs {r : Reach} {b0 : Nat} {t e : TypeId} {v : Value} {d : DataW H} {p : List MemPlace} (ks : List FK) {fs : Array Field} (ht : P.underlying t = some (.slice e)) (he : P.underlying e = some (.struct fs)) (hone : oneCellFields P fs = true) (hC : P.cellsOf e = fs.size)
    (hl : ks.length = fs.size) (hks : ∀ (j : Nat) (f : Field) (k : FK), fs[j]? = some f → ks[j]? = some k → P.underlying f.type = some k.desc)
    (hv : Value.okWide P w r b0 t v) (h : DataW.Trod enc P w base (fun _ => true) held t v d p) : ∃ a len cap g, v = .slice a len cap ∧ ArgT ks w a len cap g := by
  obtain ⟨a, len, cap, rfl⟩ := okWide_slice ht hv
  obtain ⟨fuel, hf⟩ := h
  rcases open_slice ht hf with ⟨hcs, _⟩ | ⟨x, l, c, m, n, D, Pl, hcs, hb, hle, hm, hmm, hx, hi⟩
  · simp [Value.cells] at hcs
    obtain ⟨rfl, rfl, rfl⟩ := hcs
    exact ⟨_, _, _, fun _ _ => .bool false, rfl, fun i hi => by omega, by omega, by unfold maxLen; omega, fun _ => ⟨rfl, rfl⟩⟩
  · simp [Value.cells] at hcs
    obtain ⟨rfl, rfl, rfl⟩ := hcs
    simp only [if_true] at hmm
    refine ⟨_, _, _, fun i j => (w.cell? (x.add (i * ks.length + j))).getD (.bool false), rfl, fun i hil => ⟨x, rfl, fun j k hj => ?_⟩, hle, hm, (fun h => by cases h)⟩
    obtain ⟨cs', hc, ht'⟩ := hi i (by omega)
    rw [hC] at hc
    obtain ⟨ys, n', hn', hy, hlen, hyl, hf⟩ := DataW.trod_struct he ht'
    obtain ⟨_, hcl, hat⟩ := World.cells?_some hc
    have hjl : j < fs.size := by rw [← hl]; exact (List.getElem?_eq_some_iff.1 hj).1
    have hfj : fs[j]? = some fs[j] := Array.getElem?_eq_getElem hjl
    obtain ⟨ho, hk⟩ := hone_of hone j _ hfj
    have hcell := hat j hjl
    have hv : cs'[j]? = some (cs'[j]'(by omega)) := List.getElem?_eq_getElem (by omega)
    have h1 := hf j _ hfj
    rw [ho, hk] at h1
    have hone' : (cs'.drop j).take 1 = [cs'[j]'(by omega)] := by
      rw [List.drop_eq_getElem_cons (by omega)]
      rfl
    rw [hone'] at h1
    have hys : ys[j]? = some (ys[j]'(by omega)) := List.getElem?_eq_getElem (by omega)
    have hcell' : w.cell? (x.add (i * ks.length + j)) = some (cs'[j]'(by omega)) := by rw [hl, ← Go.Deep.add_add, hcell, hv]
    rw [hcell']
    exact ⟨rfl, FK.of_trod k (hks j _ k hfj hj) (h1.trans hys)⟩
end
end Go.Proofs.Ytjigljpodkfchad
