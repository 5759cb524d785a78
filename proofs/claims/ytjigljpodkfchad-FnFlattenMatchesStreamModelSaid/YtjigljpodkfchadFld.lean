/- FnFlattenMatchesStreamModel: the arguments' reading; zzBuildInner. -/
import Derived.Test.YtjigljpodkfchadFlc
set_option linter.unusedVariables false
set_option linter.unusedSimpArgs false
namespace Go.Proofs.Ytjigljpodkfchad
open Go.RowKit
set_option maxRecDepth 100000
set_option maxHeartbeats 40000000
structure Zi where
  cb : Int
  ty : Int
  am : Nat
  nm : List ByteArray
structure Zs where
  wr : Bool
  kd : Int
  nm : ByteArray
  inn : List Zi
structure Zc where
  cb : Int
  ty : Int
  am : Nat
  ss : List Zs
abbrev ZiL (x : Zi) (a : Option Addr) (c : Nat) : List Value := [.int .u8 x.cb, .int .u8 x.ty, .int .u8 x.am, .slice a x.nm.length c]
abbrev ZsL (x : Zs) (a : Option Addr) (c : Nat) : List Value := [.bool x.wr, .int .u8 x.kd, .string x.nm, .slice a x.inn.length c]
abbrev ZcL (x : Zc) (a : Option Addr) (c : Nat) : List Value := [.int .u8 x.cb, .int .u8 x.ty, .int .u8 x.am, .slice a x.ss.length c]
abbrev U8 (n : Int) : Prop := 0 ≤ n ∧ n ≤ 255
def RN (w : World) (a : Option Addr) (ls : List ByteArray) : Prop := ∀ i s, ls[i]? = some s → ∃ b o, a = some ⟨b, o, none⟩ ∧ w.cell? ⟨b, o + i, none⟩ = some (.string s) ∧ s.size ≤ maxLen
theorem RN.after {w w' : World} {a : Option Addr} {ls : List ByteArray} (h : RN w a ls) (hb : Below w.heap.size w w') : RN w' a ls := fun i s hi => by
  obtain ⟨b, o, h1, h2, h3⟩ := h i s hi
  exact ⟨b, o, h1, ac hb h2, h3⟩
def RI (w : World) (a : Option Addr) (ls : List Zi) : Prop := ∀ i x, ls[i]? = some x → ∃ b o a' c', a = some ⟨b, o, none⟩ ∧ Seg w b (o + i * 4) (ZiL x a' c') ∧ RN w a' x.nm ∧ x.nm.length ≤ maxLen ∧ U8 x.cb ∧ U8 x.ty ∧ x.am ≤ 255
theorem RI.after {w w' : World} {a : Option Addr} {ls : List Zi} (h : RI w a ls) (hb : Below w.heap.size w w') : RI w' a ls := fun i s hi => by
  obtain ⟨b, o, a', c', h1, h2, h3, h4⟩ := h i s hi
  exact ⟨b, o, a', c', h1, h2.after hb, h3.after hb, h4⟩
def RS (w : World) (a : Option Addr) (ls : List Zs) : Prop := ∀ i x, ls[i]? = some x → ∃ b o a' c', a = some ⟨b, o, none⟩ ∧ Seg w b (o + i * 4) (ZsL x a' c') ∧ RI w a' x.inn ∧ x.inn.length ≤ maxLen ∧ U8 x.kd ∧ x.nm.size ≤ maxLen
theorem RS.after {w w' : World} {a : Option Addr} {ls : List Zs} (h : RS w a ls) (hb : Below w.heap.size w w') : RS w' a ls := fun i s hi => by
  obtain ⟨b, o, a', c', h1, h2, h3, h4⟩ := h i s hi
  exact ⟨b, o, a', c', h1, h2.after hb, h3.after hb, h4⟩
def RC (w : World) (a : Option Addr) (ls : List Zc) : Prop := ∀ i x, ls[i]? = some x → ∃ b o a' c', a = some ⟨b, o, none⟩ ∧ Seg w b (o + i * 4) (ZcL x a' c') ∧ RS w a' x.ss ∧ x.ss.length ≤ maxLen ∧ U8 x.cb ∧ U8 x.ty ∧ x.am ≤ 255
theorem RC.after {w w' : World} {a : Option Addr} {ls : List Zc} (h : RC w a ls) (hb : Below w.heap.size w w') : RC w' a ls := fun i s hi => by
  obtain ⟨b, o, a', c', h1, h2, h3, h4⟩ := h i s hi
  exact ⟨b, o, a', c', h1, h2.after hb, h3.after hb, h4⟩
def tyK (t : Int) : Option ByteArray := if t = 0 then none else some (bs [letZ t])
def Zi.key (x : Zi) : Ck ByteArray := ⟨combZ x.cb, tyK x.ty, x.am, x.nm⟩
def Zs.key (x : Zs) : SK := if x.wr then .inr (kindZ x.kd, x.inn.map Zi.key) else .inl x.nm
def Zc.key (x : Zc) : Ck SK := ⟨combZ x.cb, tyK x.ty, x.am, x.ss.map Zs.key⟩
/-- a row of compounds that is being made -/
def RMk (w : World) (v : Value) (lo n : Nat) (ms : Nat → Nat) (rs : List MR) (l : List (Ck ByteArray)) : Prop := w.ownsRow lo 102 6 v n (flat MR.cells rs) ∧ rs.length = n ∧ l.length = n ∧ (∀ (j : Nat) r x, rs[j]? = some r → l[j]? = some x → RCk Gn (fun b => Ob v b ∨ b < lo ∨ b < ms j ∨ ms (j + 1) ≤ b) w r x) ∧ (∀ j, ms j ≤ ms (j + 1)) ∧ ms n = w.heap.size
def mup (ms : Nat → Nat) (n z j : Nat) : Nat := if j ≤ n then ms j else z
theorem mup_le {ms : Nat → Nat} {n z j : Nat} (h : j ≤ n) : mup ms n z j = ms j := if_pos h
theorem mup_gt {ms : Nat → Nat} {n z j : Nat} (h : ¬ j ≤ n) : mup ms n z j = z := if_neg h
/-- one more compound -/
theorem RMk.step {w w7 w8 : World} {v v' : Value} {lo n : Nat} {ms : Nat → Nat} {rs : List MR} {l : List (Ck ByteArray)} {r : MR} {x : Ck ByteArray} (h : RMk w v lo n ms rs l) (hlo : lo ≤ w.heap.size) (hb : Below w.heap.size w w7) (hr : RCk Gn (fun b => b < w.heap.size) w7 r x) (hO : w8.ownsRow lo 102 6 v' (n + 1) (flat MR.cells rs ++ r.cells)) (hk : Kp (Ob v) w7 w8) (hn : ∀ b, Ob v' b → Ob v b ∨ w7.heap.size ≤ b) : RMk w8 v' lo (n + 1) (mup ms n w8.heap.size) (rs ++ [r]) (l ++ [x]) := by
  obtain ⟨h1, h2, h3, h4, h5, h6⟩ := h
  have z1 := hb.size
  have z2 := hk.size
  have hle : ∀ j, j ≤ n → ms j ≤ w.heap.size := fun j hj => by
    have : ∀ d, ms (n - d) ≤ w.heap.size := fun d => by
      induction d with
      | zero => rw [Nat.sub_zero, h6]; exact Nat.le_refl _
      | succ d ih =>
        by_cases hd : n ≤ d
        · rw [show n - (d + 1) = n - d by omega]; exact ih
        · have := h5 (n - (d + 1))
          rw [show n - (d + 1) + 1 = n - d by omega] at this
          omega
    have := this (n - j)
    rwa [show n - (n - j) = j by omega] at this
  refine ⟨by rw [← flat_add]; exact hO, by simp [h2], by simp [h3], fun j r' x' hr' hx' => ?_, fun j => ?_, by rw [mup_gt (by omega)]⟩
  · by_cases hj : j < n
    · rw [List.getElem?_append_left (by omega)] at hr' hx'
      have h7 := h4 j r' x' hr' hx'
      have h8 := h7.keep Gn.keep (S := fun _ => False) (O' := fun b => Ob v b ∨ b < lo ∨ b < ms j ∨ ms (j + 1) ≤ b) (Kp.of hb) (fun _ _ q => q.elim) (fun _ _ q => q)
      refine h8.keep Gn.keep hk (fun b _ q => .inl q) (fun b hb2 q => ?_)
      rw [mup_le (by omega), mup_le (by omega)] at q
      rcases q with q | q
      · rcases hn b q with q | q
        · exact .inl q
        · omega
      · exact .inr q
    · have hjn : j = n := by have := (List.getElem?_eq_some_iff.1 hr').1; simp at this; omega
      subst hjn
      rw [List.getElem?_append_right (by omega), h2, Nat.sub_self] at hr'
      rw [List.getElem?_append_right (by omega), h3, Nat.sub_self] at hx'
      injection hr' with hr'
      injection hx' with hx'
      subst hr'
      subst hx'
      rw [mup_le (Nat.le_refl _), mup_gt (by omega), h6]
      refine hr.keep Gn.keep hk (fun b _ q => (h1.lt b q).2) (fun b hb2 q => ?_)
      rcases q with q | q | q | q
      · rcases hn b q with q | q
        · exact (h1.lt b q).2
        · omega
      · show b < w.heap.size; omega
      · exact q
      · omega
  · by_cases hj : j + 1 ≤ n
    · rw [mup_le (by omega), mup_le hj]; exact h5 j
    · by_cases hj2 : j ≤ n
      · rw [mup_le hj2, mup_gt hj]; have := hle j hj2; omega
      · rw [mup_gt hj2, mup_gt (by omega)]; exact Nat.le_refl _
theorem RMk.shut {w w' : World} {a : Option Addr} {c lo n : Nat} {ms : Nat → Nat} {rs : List MR} {l : List (Ck ByteArray)} (h : RMk w (.slice a n c) lo n ms rs l) (ha : a ≠ none) (hb : Below w.heap.size w w') : ∃ g, a = some ⟨g, 0, none⟩ ∧ lo ≤ g ∧ g < w.heap.size ∧ n ≤ c ∧ RIn (fun b => b < lo) w' g ms rs l := by
  obtain ⟨h1, h2, h3, h4, h5, h6⟩ := h
  rcases h1.2 with ⟨e, -⟩ | ⟨g, cap, cur, e, hlo, hg, hcap⟩
  · injection e with e _ _; exact absurd e ha
  · injection e with e _ e3
    subst e
    refine ⟨g, rfl, (h1.lt g rfl).1, (h1.lt g rfl).2, by have := own_shape h1; obtain ⟨a', c', e', h7, -⟩ := this; injection e' with _ _ e'; omega, by omega, fun k r x hr hx => ?_⟩
    have hk := (List.getElem?_eq_some_iff.1 hr).1
    refine ⟨(show Seg w g (k * 6) r.cells from fun j v hj => own_at MR.len h1 hr hj).after hb, (h4 k r x hr hx).keep Gn.keep (S := fun _ => False) (Kp.of hb) (fun _ _ q => q.elim) (fun b _ q => ?_)⟩
    rcases q with q | q | q
    · exact .inr (.inl q)
    · exact .inr (.inr (.inl q))
    · exact .inr (.inr (.inr q))
end Go.Proofs.Ytjigljpodkfchad
