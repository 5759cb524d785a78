/- FnSubstituteAmpersandsClosedForm: words on the substitution: what the stand-in gives, what stands in a compound. -/
import Derived.Test.YtjigljpodkfchaaFmtSuh
set_option linter.unusedVariables false
set_option linter.unusedSimpArgs false
namespace Go.Proofs.YtjigljpodkfchaaFmt
open Go.RowKit
set_option maxRecDepth 100000
set_option maxHeartbeats 4000000
/-- what a subclass selector says: a name, or a list -/
abbrev SK := ByteArray ⊕ List (List (CK ByteArray))
/-- Zs: the blocks of the lists' nodes; nothing else lies in one -/
def G1 (Zs O : Nat → Prop) (w : World) (s : SubR SK) : Prop := match s.k with
  | .inl nm => G0 (fun b => O b ∨ Zs b) w ⟨s.t, s.p, nm⟩
  | .inr pk => s.t = 116 ∧ ∃ (Z : Nat) (a : Option Addr) (c n : Nat) (ls : List (CxR ByteArray)), s.p = .pointer (some ⟨Z, 0, none⟩) ∧ Zs Z ∧ ¬ O Z ∧ Seg w Z 0 [.slice a n c, .string ⟨#[]⟩, .string ⟨#[]⟩, .int .u8 2] ∧ RCx G0 (fun b => O b ∨ Zs b) w a ls ∧ ls.length = n ∧ ls.map CxR.key = pk
theorem G1.keep {Zs Zs' O O' S : Nat → Prop} {w w' : World} {s : SubR SK} (h : G1 Zs O w s) (hk : Kc (fun b => O b ∨ S b) w w') (ho : ∀ b, b < w.heap.size → O' b → O b) (hz : ∀ b, b < w.heap.size → (Zs' b ↔ Zs b)) (hS : ∀ b, S b → Zs b) (hn : ∀ Z, s.t = 116 → s.p = .pointer (some ⟨Z, 0, none⟩) → ¬ S Z) : G1 Zs' O' w' s := by
  have hk2 : Kc (fun b => O b ∨ Zs b) w w' := fun a v hc hx => hk a v hc (fun q => hx (q.imp id (hS _)))
  have ho2 : ∀ b, b < w.heap.size → O' b ∨ Zs' b → O b ∨ Zs b := fun b hb q => q.imp (ho b hb) ((hz b hb).1)
  obtain ⟨t, p, k⟩ := s
  cases k with
  | inl nm => exact G0.keep _ _ _ _ _ h hk2 ho2
  | inr pk =>
    obtain ⟨h1, Z, a, c, n, ls, h2, h3, h4, h5, h6, h7⟩ := h
    have hlt := Seg.lt h5
    exact ⟨h1, Z, a, c, n, ls, h2, (hz Z hlt).2 h3, fun q => h4 (ho Z hlt q), Seg.keep h5 hk (fun q => q.elim h4 (hn Z h1 h2)), RCx.keep G0.keep h6 hk2 ho2, h7⟩
/-- a list's node is no other's -/
def Dist (ls : List (SubR SK)) : Prop := ∀ (i j : Nat) (s s' : SubR SK), ls[i]? = some s → ls[j]? = some s' → i ≠ j → s.t = 116 → s'.p ≠ s.p
def RowG (Zs O : Nat → Prop) (w : World) (a : Option Addr) (ls : List (SubR SK)) : Prop := ∀ i s, ls[i]? = some s → ∃ g, a = some ⟨g, 0, none⟩ ∧ ¬ O g ∧ ¬ Zs g ∧ Seg w g (i * 3) s.cells ∧ G1 Zs O w s
theorem RowG.keep {Zs Zs' O O' : Nat → Prop} {w w' : World} {a : Option Addr} {ls : List (SubR SK)} (h : RowG Zs O w a ls) (hk : Kc O w w') (ho : ∀ b, b < w.heap.size → O' b → O b) (hz : ∀ b, b < w.heap.size → (Zs' b ↔ Zs b)) : RowG Zs' O' w' a ls := fun i s hi => by
  obtain ⟨g, h1, h2, h3, h4, h5⟩ := h i s hi
  have hlt := Seg.lt h4
  exact ⟨g, h1, fun q => h2 (ho g hlt q), fun q => h3 ((hz g hlt).1 q), Seg.keep h4 hk h2, h5.keep (S := fun _ => False) (fun a v hc hx => hk a v hc (fun q => hx (.inl q))) ho hz (fun _ q => q.elim) (fun _ _ _ q => q)⟩
/-- what the stand-in's function gives -/
def FnP (rc : Int) (rep : List SK) (v : Value) (M : Nat) (W : World) (e : Ending) (w' : World) : Prop := ∃ (g c : Nat) (s : CpR SK) (Zs : Nat → Prop), e = .returned (.agg #[.slice (some ⟨g, 0, none⟩) 1 c]) ∧ Seg w' g 0 [.pointer none, .slice s.a s.ls.length s.c, .slice s.nx s.nn s.nc, .int .i32 0, .int .u8 rc, .bool false] ∧ s.ls.map SubR.k = rep ∧ RowG Zs (fun b => Ob v b ∨ M ≤ b ∧ b < W.heap.size) w' s.a s.ls ∧ (∀ Z, Zs Z → W.heap.size ≤ Z ∧ Room w' Z 4) ∧ Dist s.ls ∧ Below W.heap.size W w'
theorem G1.of0 {O : Nat → Prop} {w : World} {s : SubR ByteArray} (h : G0 O w s) : G1 (fun _ => False) O w ⟨s.t, s.p, .inl s.k⟩ := G0.keep (fun b => O b) _ _ _ _ h (fun _ _ q _ => q) (fun b _ q => q.elim id False.elim)
theorem Dist.plain {ls : List (SubR SK)} (h : ∀ s ∈ ls, s.t = 125) : Dist ls := fun i j s s' hi _ _ ht => by rw [h s (List.mem_of_getElem? hi)] at ht; cases ht
end Go.Proofs.YtjigljpodkfchaaFmt
