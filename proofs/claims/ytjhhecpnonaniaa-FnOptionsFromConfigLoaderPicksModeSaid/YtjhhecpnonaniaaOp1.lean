/- The map of prefixes, built; the class of a loader; bounds. -/
import Derived.Test.YtjhhecpnonaniaaArg
import Derived.Test.YtjhhecpnonaniaaIU
import Derived.Maps.Ext
import Derived.Maps.Own
import Derived.Maps.OwnOps
import Derived.Maps.OwnSet
import Derived.Maps.Range
import Derived.Maps.RangeWalk
import Derived.OwnWalk
set_option linter.unusedVariables false
set_option linter.unusedSimpArgs false
namespace Go.Proofs.Ytjhhecpnonaniaa
open Go.RowKit
open Go.Maps (int_keyed keyOf_int_mk Keyed)
theorem law95 : Keyed Try.prog 95 := int_keyed Try.underlying95
/-- block b is a map that the call has made -/
def Mp (w : World) (b : Nat) : Prop := ∃ (n : Nat) (D : DataW Unit), n ≤ 1048576 ∧ w.ownsMap Try.prog 95 (plainElem Try.prog 96) b n D
theorem own_below {w w' : World} {b n : Nat} {D : DataW Unit} (h : w.ownsMap Try.prog 95 (plainElem Try.prog 96) b n D) (hb : Below w.heap.size w w') : w'.ownsMap Try.prog 95 (plainElem Try.prog 96) b n D := by
  have hlt := h.lt
  obtain ⟨es, clock, h1, rest⟩ := h
  exact ⟨es, clock, by rw [hb.block _ hlt]; exact h1, rest⟩
def SmallB (w : World) (a b c : Nat) (e : Ending) (w' : World) : Prop := ∃ x : Bool, e = .returned (.bool x) ∧ (x = true → a ≤ 1048576 ∧ b ≤ 1048576 ∧ c ≤ 1048576) ∧ w = w'
theorem bytes4_c (l f : Int) (ft : Int) (s : ByteArray) (A1 A2 : Option Addr) (n1 c1 n2 c2 : Nat) (w : World) (h0 : s.size ≤ maxLen) (h1 : n1 ≤ maxLen) (h2 : n2 ≤ maxLen) :
    Calls Try.prog 4 #[.int .u8 l, .int .u8 f, .int .u16 ft, .string s, .slice A1 n1 c1, .slice A2 n2 c2] w (SmallB w s.size n1 n2) := by
  unfold maxLen at h0 h1 h2
  go_enter Try.func4, Try.ntmps4
  go_wp2_with fail
  all_goals (go_ret; exact ⟨_, rfl, (fun h => by first | exact absurd h (by decide) | omega), rfl⟩)
theorem class7_c (l : Int) (w : World) : Calls Try.prog 7 #[.int .u8 l] w fun e w' => e = .returned (.int .i64 (if l = 9 then 1 else if l = 14 then 2 else 0)) ∧ w = w' := by
  by_cases h9 : l = 9
  · subst h9
    go_enter Try.func7, Try.ntmps7
    go_wp2
    go_ret
    exact ⟨rfl, rfl⟩
  · by_cases h14 : l = 14
    · subst h14
      go_enter Try.func7, Try.ntmps7
      go_wp2
      go_ret
      exact ⟨rfl, rfl⟩
    · have e : (if l = 9 then (1 : Int) else if l = 14 then 2 else 0) = 0 := by rw [if_neg h9, if_neg h14]
      rw [e]
      have h9' : (l == 9) = false := by simpa using h9
      have h14' : (l == 14) = false := by simpa using h14
      go_enter Try.func7, Try.ntmps7
      go_wp2
      go_ret
      exact ⟨rfl, rfl⟩
theorem min10_c (a b : Nat) (w : World) : Calls Try.prog 10 #[.int .i64 a, .int .i64 b] w fun e w' => e = .returned (.int .i64 ((min a b : Nat) : Int)) ∧ w = w' := by
  by_cases h : a < b
  · have e : min a b = a := by omega
    rw [e]
    go_enter Try.func10, Try.ntmps10
    go_wp2
    go_ret
    exact ⟨rfl, rfl⟩
  · have e : min a b = b := by omega
    rw [e]
    go_enter Try.func10, Try.ntmps10
    go_wp2
    go_ret
    exact ⟨rfl, rfl⟩
def MapB (w : World) (e : Ending) (w' : World) : Prop := ∃ m, e = .returned (.map m) ∧ Below w.heap.size w w' ∧ ∀ b, m = some b → w.heap.size ≤ b ∧ Mp w' b
theorem mk28 (n : Nat) (hn : n ≤ 1048576) (W : World) : (Instr.makeMap 28 (some (.int .i64 n))).run Try.prog W = .ok (.map (some W.heap.size)) (W.alloc (.map #[] 0)) := by
  simp [Instr.makeMap, asInt, asIntOf, Result.andThen]
set_option maxRecDepth 100000 in
theorem prefix9_c (A1 A2 : Option Addr) (n1 c1 n2 c2 : Nat) (f1 f2 : Nat → Int) (w : World) (hn1 : n1 ≤ 1048576) (hn2 : n2 ≤ 1048576) (r1 : Row .u16 w A1 n1 f1) (r2 : Row .u8 w A2 n2 f2)
    (w1 : ∀ i, i < n1 → (Lit.int .u16 (f1 i)).wf = true) (w2 : ∀ i, i < n2 → (Lit.int .u8 (f2 i)).wf = true) : Calls Try.prog 9 #[.slice A1 n1 c1, .slice A2 n2 c2] w (MapB w) := by
  obtain ⟨n, hn⟩ : ∃ n, n = min n1 n2 := ⟨_, rfl⟩
  have C := Lib.hid (min10_c n1 n2 w)
  rw [← hn] at C
  have l1 : n ≤ n1 := by omega
  have l2 : n ≤ n2 := by omega
  clear hn
  have mk := mk28 n (by omega)
  have R1 := Lib.hid r1; have R2 := Lib.hid r2; have W1 := Lib.hid w1; have W2 := Lib.hid w2
  clear r1 r2 w1 w2
  by_cases hz : n = 0
  · subst hz
    go_enter Try.func9, Try.ntmps9
    go_wp2_with (go_at_call 10; (with_reducible refine C.out.mono ?_); rintro e w1 ⟨rfl, rfl⟩)
    go_ret
    exact ⟨_, rfl, Below.refl _ _, fun b h => by cases h⟩
  · have hz' : ((n : Int) == 0) = false := by simpa using hz
    clear hz
    go_enter Try.func9, Try.ntmps9
    go_wp2_with (go_at_call 10; (with_reducible refine C.out.mono ?_); rintro e w1 ⟨rfl, rfl⟩)
    have H0 : (w.alloc (.map #[] 0)).ownsMap (H := Unit) Try.prog 95 (plainElem Try.prog 96) w.heap.size 0 (.map []) := World.ownsMap_made _ _ _ _
    go_loopw [7] (fun i wr => ∃ (k : Nat) (D : DataW Unit), k ≤ n ∧ i = .int .i64 k ∧ wr.ownsMap Try.prog 95 (plainElem Try.prog 96) w.heap.size k D ∧ Below w.heap.size w wr) (fun i _ => n - (intOf i).toNat)
    case atStart => exact ⟨0, _, by omega, rfl, H0, ba _ _⟩
    case round =>
      clear H0 mk
      obtain ⟨k, D, hk, rfl, hown, hB⟩ := hrel
      by_cases hlt : k < n
      · obtain ⟨x1, rfl, q1⟩ := (R1.out.after hB) k (by omega)
        obtain ⟨x2, rfl, q2⟩ := (R2.out.after hB) k (by omega)
        have wf1 := W1.out k (by omega)
        have wf2 := W2.out k (by omega)
        have g1 := fun d os => cell_regrown q1 d os
        have g2 := fun d os => cell_regrown q2 d os
        have i0 : (0 : Int) ≤ (k : Int) := by omega
        have i1 : (k : Int) < (n1 : Int) := by omega
        have i2 : (k : Int) < (n2 : Int) := by omega
        go_wp2
        refine drawn_tail 9 (by kernel_rfl) (by kernel_rfl) (by kernel_rfl) (fun Q hQ => ?_)
        simp only [List.take_succ_cons, List.take_zero, List.drop_succ_cons, List.drop_zero]
        repeat (quiet_step (fail))
        refine wpQuiet_nil ?_
        clear g1 g2 q1 q2
        intro W2 hw
        have hW : Below wr.heap.size wr W2 := by
          obtain ⟨⟨d, os⟩, rfl⟩ := hw
          exact below_regrown wr d os
        clear hw
        have hown2 := own_below hown hW
        have hB2 := hB.trans (hW.mono hB.size)
        clear hW hown hB
        go_wp2_with (at_mapUpdate; go_loud (refine wpList_mapUpdate_own _ rfl _ _ _ 28 rfl 95 96 law95 Try.underlying28 _ w.heap.size k D rfl hown2 (by unfold maxLen; omega) _ _ _ rfl rfl (keyOf_int_mk Try.underlying95 wf1) _ [] (plainElem_int Try.underlying96 wf2) ?_); intro w3 hown3 hg3)
        exact ⟨⟨k + 1, _, by omega, by go_num, hown3, hB2.grown hg3 hB2.size (fun j hj => by cases hj; exact Nat.le_refl _)⟩, by simp [intOf]; omega⟩
      · obtain rfl : k = n := by omega
        go_wp2
        go_ret
        exact ⟨_, rfl, hB, fun b h => by cases h; exact ⟨Nat.le_refl _, k, D, by omega, hown⟩⟩
end Go.Proofs.Ytjhhecpnonaniaa
