/- compoundSelectorTermCount, complexSelectorTermCount. -/
import Derived.Test.YtnkkfihcabfkdaaCt2
set_option linter.unusedVariables false
set_option linter.unusedSimpArgs false
namespace Go.Proofs.Ytnkkfihcabfkdaa
open Go.RowKit
set_option maxRecDepth 100000
set_option maxHeartbeats 4000000
def RetN (k : Nat) (w : World) (e : Ending) (w' : World) : Prop := e = .returned (.int .i64 k) ∧ Below w.heap.size w w'
def SubOK (w : World) (s : SubR) : Prop := (s.t = 53 ∧ s.k = 1) ∨ ∃ (B n c : Nat) (a : Option Addr) (x y : ByteArray) (q : Int) (k : Nat), s.t = 57 ∧ s.p = .pointer (some ⟨B, 0, none⟩) ∧ w.heap[B]? = some (.cells #[.slice a n c, .string x, .string y, .int .u8 q] 62 (0, 0)) ∧ s.k = 1 + k ∧ (k ≤ 1000000 → ∀ w', Below w.heap.size w w' → Calls Try.prog 13 #[.slice a n c] w' (RetN k w'))
theorem SubOK.below {w w' : World} {s : SubR} (h : SubOK w s) (hb : Below w.heap.size w w') : SubOK w' s := by
  rcases h with h | ⟨B, n, c, a, x, y, q, k, h1, h2, h3, h4, h5⟩
  · exact .inl h
  · refine .inr ⟨B, n, c, a, x, y, q, k, h1, h2, ?_, h4, fun hk w2 hb2 => h5 hk w2 (hb.trans (hb2.mono hb.size))⟩
    rw [hb.block B (Array.getElem?_eq_some_iff.1 h3).1]
    exact h3
/-- a slice of subclass selectors, read -/
def RdS (w : World) (A : Option Addr) (n : Nat) (ls : List SubR) : Prop := ls.length = n ∧ ∀ (i : Nat) (s : SubR), ls[i]? = some s → ∃ g o, A = some ⟨g, o, none⟩ ∧ ∀ (j : Nat) (u : Value), s.cells[j]? = some u → w.cell? ⟨g, o + i * 3 + j, none⟩ = some u
theorem RdS.below {w w' : World} {A : Option Addr} {n : Nat} {ls : List SubR} (h : RdS w A n ls) (hb : Below w.heap.size w w') : RdS w' A n ls := ⟨h.1, fun i s hi => by
  obtain ⟨g, o, e, hc⟩ := h.2 i s hi
  exact ⟨g, o, e, fun j u hj => ac hb (hc j u hj)⟩⟩
theorem flat_n {T : Type} {f : T → List Value} {z : Nat} (hz : ∀ x, (f x).length = z) (h0 : 0 < z) {w : World} {B : Nat} {e : TypeId} {v : Value} {n : Nat} {l : List T} (h : w.ownsRow B e z v n (flat f l)) : l.length = n := by
  have hl := h.1
  rw [flat_len f z hz] at hl
  exact Nat.eq_of_mul_eq_mul_right h0 hl
theorem RdS.of {w : World} {B : Nat} {a : Option Addr} {n c : Nat} {ls : List SubR} (h : w.ownsRow B 49 3 (.slice a n c) n (flat SubR.cells ls)) : RdS w a n ls := by
  have hl := flat_n SubR.len (by omega) h
  refine ⟨hl, fun i s hi => ?_⟩
  have hpos : 0 < n := by have := (List.getElem?_eq_some_iff.1 hi).1; omega
  obtain ⟨g, c2, he, -, -, -, -⟩ := own_some h hpos
  injection he with he1 _ he3
  subst he1 he3
  refine ⟨g, 0, rfl, fun j u hj => ?_⟩
  rw [Nat.zero_add]
  exact own_at SubR.len h hi hj
theorem cntS_take (l : List SubR) (m : Nat) (s : SubR) (h : l[m]? = some s) : cntS (l.take (m + 1)) = cntS (l.take m) + s.k := by rw [List.take_add_one, h]; simp [cntS]
theorem cntP_take (l : List CpR) (m : Nat) (s : CpR) (h : l[m]? = some s) : cntP (l.take (m + 1)) = cntP (l.take m) + cntS s.ls := by rw [List.take_add_one, h]; simp [cntP]
theorem cntX_take (l : List CxR) (m : Nat) (s : CxR) (h : l[m]? = some s) : cntX (l.take (m + 1)) = cntX (l.take m) + cntP s.ls := by rw [List.take_add_one, h]; simp [cntX]
theorem sum_take_le (l : List Nat) : ∀ m, (l.take m).sum ≤ l.sum := by
  intro m
  have := congrArg List.sum (List.take_append_drop m l)
  rw [List.sum_append] at this
  omega
theorem cntS_le (l : List SubR) (m : Nat) : cntS (l.take m) ≤ cntS l := by unfold cntS; rw [List.map_take]; exact sum_take_le _ _
theorem cntP_le (l : List CpR) (m : Nat) : cntP (l.take m) ≤ cntP l := by unfold cntP; rw [List.map_take]; exact sum_take_le _ _
theorem cntX_le (l : List CxR) (m : Nat) : cntX (l.take m) ≤ cntX l := by unfold cntX; rw [List.map_take]; exact sum_take_le _ _
def LK (w : World) (n : Nat) (cnt : Nat → Nat) (x i : Value) (wr : World) : Prop := ∃ k : Nat, k ≤ n ∧ i = .int .i64 k ∧ x = .int .i64 (cnt k) ∧ Below w.heap.size w wr
def LK2 (w : World) (n b : Nat) (cnt : Nat → Nat) (x i : Value) (wr : World) : Prop := ∃ k y : Nat, k ≤ n ∧ i = .int .i64 k ∧ x = .int .i64 y ∧ Hid (y = b + cnt k) ∧ Below w.heap.size w wr
theorem ta57 (p : Value) (W : World) : (Instr.typeAssert (.iface 57 p) 45 57 true).run Try.prog W = .ok (.tuple #[p, .bool true]) W := by kernel_rfl
theorem ta53 (p : Value) (W : World) : (Instr.typeAssert (.iface 53 p) 45 57 true).run Try.prog W = .ok (.tuple #[.pointer none, .bool false]) W := by kernel_rfl
theorem comp12_c (A : Option Addr) (n c : Nat) (ls : List SubR) (w : World) (hR : RdS w A n ls) (hs : ∀ s ∈ ls, SubOK w s) (hk : cntS ls ≤ 1000000) (hn : n ≤ maxLen) : Calls Try.prog 12 #[.agg (CpR.arr ⟨A, n, c, ls⟩)] w (RetN (cntS ls) w) := by
  unfold maxLen at hn
  have hln := Lib.hid hR.1
  replace hR := Lib.hid hR; replace hs := Lib.hid hs
  have hle := Lib.hid (cntS_le ls)
  go_enter Try.func12, Try.ntmps12
  go_upto_region 3 with fail
  refine wp_gen (fun W hW => ?_)
  have hB : Hid (Below w.heap.size w W) := Lib.hid (by rw [hW]; exact ba _ _)
  clear hW
  go_wp2_with fail
  go_loopw [3, 11] (fun x i wr => LK w n (fun m => cntS (ls.take m)) x i wr) (fun _ i _ => n - (intOf i).toNat)
  case atStart => exact ⟨0, by omega, rfl, by simp [cntS], hB.out⟩
  case round =>
    clear hB
    obtain ⟨k, hkn, rfl, hx, hB⟩ := hrel
    simp only at hx
    subst hx
    obtain ⟨Wo, hWo⟩ : ∃ Wo, Wo = wr := ⟨_, rfl⟩
    subst hWo
    have hX := hR.out.below hB
    replace hB := Lib.hid hB
    by_cases hlt : k < n
    · obtain ⟨s, hsk⟩ : ∃ s, ls[k]? = some s := ⟨_, List.getElem?_eq_getElem (by rw [hln.out]; exact hlt)⟩
      obtain ⟨g, o, hA, CL⟩ := hX.2 k s hsk
      have hOK := (hs.out s (List.mem_of_getElem? hsk)).below hB.out
      have hst := cntS_take ls k s hsk
      have hle1 := hle.out (k + 1)
      subst hA
      have e0 := CL 0 _ rfl; have e1 := CL 1 _ rfl; have e2 := CL 2 _ rfl
      simp only [Nat.add_zero] at e0
      clear CL hX
      obtain ⟨st, sp, sk⟩ := s
      simp only [SubR.v] at e0
      simp only at hst
      obtain ⟨y, hy⟩ : ∃ y, cntS (ls.take k) = y := ⟨_, rfl⟩
      obtain ⟨y', hy'⟩ : ∃ y, cntS (ls.take (k + 1)) = y := ⟨_, rfl⟩
      rw [hy, hy'] at hst
      rw [hy'] at hle1
      rw [hy]
      have i0 : (0 : Int) ≤ k := by omega
      have i1 : (k : Int) < n := by omega
      have RR : ∀ (v : Value) (W2 : World), v = .int .i64 y' → Below w.heap.size w W2 → LK w n (fun m => cntS (ls.take m)) v (.int .i64 ((k : Int) + 1)) W2 := fun v W2 e hb => ⟨k + 1, by omega, by go_num, by rw [e]; simp only [hy'], hb⟩
      replace RR := Lib.hid RR
      clear hy hy' hsk
      rcases hOK with ⟨h1, h2⟩ | ⟨B, n', c', a, x, z, q, kk, h1, h2, h3, h4, h5⟩
      · simp only at h1 h2
        subst h1 h2
        have ta := ta53
        go_upto_region 6 with fail
        clear e0 e1 e2
        refine wp_gen (fun W2 hW => ?_)
        have hbW : Below Wo.heap.size Wo W2 := by rw [hW]; exact ba _ _
        have e0 : W2.cell? ⟨Wo.heap.size, 0, none⟩ = some (.iface 53 sp) := by rw [hW]; simp [go_sem]
        clear hW
        have hB3 := Lib.hid (hB.out.trans (hbW.mono hB.out.size))
        clear hbW
        generalize Wo.heap.size = PS at *
        go_wp2_with fail
        exact ⟨RR.out _ _ (by rw [hst]; go_num) hB3.out, by simp [intOf]; omega⟩
      · simp only at h1 h2 h4
        subst h1 h2 h4
        have ta := ta57
        have C13 := Lib.hid (h5 (by omega))
        clear h5
        go_upto_region 6 with fail
        clear e0 e1 e2
        refine wp_gen (fun W2 hW => ?_)
        have hbW : Below Wo.heap.size Wo W2 := by rw [hW]; exact ba _ _
        have e0 : W2.cell? ⟨Wo.heap.size, 0, none⟩ = some (.iface 57 (.pointer (some ⟨B, 0, none⟩))) := by rw [hW]; simp [go_sem]
        have g0 : W2.cell? ⟨B, 0, none⟩ = some (.slice a n' c') := ac hbW (cell_of_row Wo B 0 _ 62 (0, 0) h3)
        clear hW h3
        have C := Lib.hid (C13.out W2 hbW)
        have hB3 := Lib.hid (hB.out.trans (hbW.mono hB.out.size))
        clear hbW C13
        generalize Wo.heap.size = PS at *
        go_wp2_with (go_at_call 13; (with_reducible refine C.out.mono ?_); rintro e w3 ⟨rfl, hb⟩; have hB4 := Lib.hid (hB3.out.trans (hb.mono hB3.out.size)); clear hb)
        exact ⟨RR.out _ _ (by rw [hst]; congr 1; push_cast; omega) hB4.out, by simp [intOf]; omega⟩
    · obtain rfl : k = n := by omega
      have HP : RetN (cntS ls) w (.returned (.int .i64 (cntS (ls.take k)))) Wo := ⟨by rw [List.take_of_length_le (by rw [hln.out]; exact Nat.le_refl _)], hB.out⟩
      replace HP := Lib.hid HP
      go_wp2_with fail
      go_ret
      exact HP.out
end Go.Proofs.Ytnkkfihcabfkdaa
