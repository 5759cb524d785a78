/- What the law's check reads off the parser. -/
import Derived.Test.YtoebloceibfboaaDoorSy4
set_option linter.unusedVariables false
set_option linter.unusedSimpArgs false
namespace Go.Proofs.YtoebloceibfboaaDoor
open Go.RowKit
def Gv (v : Value) (w : World) (e : Ending) (w' : World) : Prop := e = .returned v ∧ Below w.heap.size w w'
theorem cnt9_c (w : World) (S : Nat → Prop) (G B : Nat) (mk : Bool) (l : List SyR) (h : PS w S G B mk l) : Calls Tryd.prog 9 #[.pointer (some ⟨B, 0, none⟩)] w (Gv (.int .i64 l.length) w) := by
  obtain ⟨m1, m2, v1, v2, D, h⟩ := h
  obtain ⟨a1, n1, rfl, -, -⟩ := own_shape h.o1
  have c := h.c21
  clear h
  go_enter Tryd.func9, Tryd.ntmps9
  go_wp2
  go_ret
  exact ⟨rfl, Below.refl _ _⟩
theorem cnt10_c (w : World) (S : Nat → Prop) (G B : Nat) (mk : Bool) (l : List SyR) (h : PS w S G B mk l) : Calls Tryd.prog 10 #[.pointer (some ⟨B, 0, none⟩)] w (Gv (.int .i64 ((if mk then l.length else 0 : Nat) : Int)) w) := by
  obtain ⟨m1, m2, v1, v2, D, h⟩ := h
  obtain ⟨a2, n2, e2, -, -⟩ := own_shape h.o2
  have c := h.c23
  rw [e2] at c
  clear h e2
  generalize (if mk = true then l.length else 0) = n at c ⊢
  go_enter Tryd.func10, Tryd.ntmps10
  go_wp2
  go_ret
  exact ⟨rfl, Below.refl _ _⟩
theorem rd20_c (w : World) (S : Nat → Prop) (G B : Nat) (mk : Bool) (l : List SyR) (h : PS w S G B mk l) (i : Nat) (r : SyR) (hi : l[i]? = some r) : Calls Tryd.prog 20 #[.pointer (some ⟨B, 0, none⟩), .int .i64 i] w (Gv (.string r.name) w) := by
  obtain ⟨m1, m2, v1, v2, D, h⟩ := h
  have hil := (List.getElem?_eq_some_iff.1 hi).1
  obtain ⟨g, n1, rfl, -, -, -, -⟩ := own_some h.o1 (by omega)
  have c := h.c21
  have d := own_at (symC_len (kd mk)) h.o1 hi (j := 1) rfl
  have j0 : (0 : Int) ≤ (i : Int) := by omega
  have j1 : (i : Int) < (l.length : Int) := by omega
  clear h
  go_enter Tryd.func20, Tryd.ntmps20
  go_wp2
  go_ret
  exact ⟨rfl, Below.refl _ _⟩
theorem rd21_c (w : World) (S : Nat → Prop) (G B : Nat) (mk : Bool) (l : List SyR) (h : PS w S G B mk l) (i : Nat) (r : SyR) (hi : l[i]? = some r) : Calls Tryd.prog 21 #[.pointer (some ⟨B, 0, none⟩), .int .i64 i] w (Gv (.int .u32 r.uses) w) := by
  obtain ⟨m1, m2, v1, v2, D, h⟩ := h
  have hil := (List.getElem?_eq_some_iff.1 hi).1
  obtain ⟨g, n1, rfl, -, -, -, -⟩ := own_some h.o1 (by omega)
  have c := h.c21
  have d := own_at (symC_len (kd mk)) h.o1 hi (j := 4) rfl
  have j0 : (0 : Int) ≤ (i : Int) := by omega
  have j1 : (i : Int) < (l.length : Int) := by omega
  clear h
  go_enter Tryd.func21, Tryd.ntmps21
  go_wp2
  go_ret
  exact ⟨rfl, Below.refl _ _⟩
theorem rd26_c (w : World) (S : Nat → Prop) (G B : Nat) (mk : Bool) (l : List SyR) (h : PS w S G B mk l) (i : Nat) (r : SyR) (hi : l[i]? = some r) : Calls Tryd.prog 26 #[.pointer (some ⟨B, 0, none⟩), .int .i64 i] w (Gv (.int .u8 (kd mk)) w) := by
  obtain ⟨m1, m2, v1, v2, D, h⟩ := h
  have hil := (List.getElem?_eq_some_iff.1 hi).1
  obtain ⟨g, n1, rfl, -, -, -, -⟩ := own_some h.o1 (by omega)
  have c := h.c21
  have d := own_at (symC_len (kd mk)) h.o1 hi (j := 8) rfl
  have j0 : (0 : Int) ≤ (i : Int) := by omega
  have j1 : (i : Int) < (l.length : Int) := by omega
  clear h
  go_enter Tryd.func26, Tryd.ntmps26
  go_wp2
  go_ret
  exact ⟨rfl, Below.refl _ _⟩
theorem rd27_c (w : World) (S : Nat → Prop) (G B : Nat) (l : List SyR) (h : PS w S G B true l) (i : Nat) (hil : i < l.length) : Calls Tryd.prog 27 #[.pointer (some ⟨B, 0, none⟩), .int .i64 i] w (Gv (.int .u32 (i : Int)) w) := by
  obtain ⟨m1, m2, v1, v2, D, h⟩ := h
  have o2 := h.o2
  simp only [if_true] at o2
  obtain ⟨g, n2, rfl, -, -, -, -⟩ := own_some o2 (by omega)
  have c := h.c23
  have d := own_at locC_len o2 (i := i) (x := i) (by simp [hil]) (j := 2) rfl
  have j0 : (0 : Int) ≤ (i : Int) := by omega
  have j1 : (i : Int) < (l.length : Int) := by omega
  clear h o2
  go_enter Tryd.func27, Tryd.ntmps27
  go_wp2
  go_ret
  exact ⟨rfl, Below.refl _ _⟩
set_option maxRecDepth 100000 in
theorem kinds22_c (w : World) (S : Nat → Prop) (G B : Nat) (mk : Bool) (l : List SyR) (h : PS w S G B mk l) (hl : l.length ≤ 1048576) : Calls Tryd.prog 22 #[.pointer (some ⟨B, 0, none⟩), .int .i64 l.length, .bool mk] w (Gv (.bool true) w) := by
  have H := Lib.hid h
  clear h
  go_enter Tryd.func22, Tryd.ntmps22
  go_wp2
  go_loopw [7] (fun i wr => ∃ k : Nat, k ≤ l.length ∧ i = .int .i64 k ∧ Below w.heap.size w wr) (fun i _ => l.length - (intOf i).toNat)
  case atStart => exact ⟨0, by omega, rfl, Below.refl _ _⟩
  case round =>
    obtain ⟨k, hk, rfl, hB⟩ := hrel
    have hP := Lib.hid (H.out.below hB)
    replace hB := Lib.hid hB
    by_cases hlt : k < l.length
    · obtain ⟨r, hr⟩ : ∃ r, l[k]? = some r := ⟨l[k], List.getElem?_eq_getElem hlt⟩
      have C := Lib.hid (rd26_c wr S G B mk l hP.out k r hr)
      cases mk
      · go_wp2_with (go_at_call 26; (with_reducible refine C.out.mono ?_); rintro e w1 ⟨rfl, hb⟩; replace hB := Lib.hid (hB.out.trans (hb.mono hB.out.size)); simp only [kd])
        go_roundw
        case rel => exact ⟨k + 1, by omega, by go_num, hB.out⟩
        case measure => simp [intOf]; omega
      · go_wp2_with (go_at_call 26; (with_reducible refine C.out.mono ?_); rintro e w1 ⟨rfl, hb⟩; replace hB := Lib.hid (hB.out.trans (hb.mono hB.out.size)); simp only [kd])
        go_roundw
        case rel => exact ⟨k + 1, by omega, by go_num, hB.out⟩
        case measure => simp [intOf]; omega
    · obtain rfl : k = l.length := by omega
      have C := Lib.hid (cnt10_c wr S G B mk l hP.out)
      cases mk
      · simp only [Bool.false_eq_true, if_false] at C
        go_wp2_with (go_at_call 10; (with_reducible refine C.out.mono ?_); rintro e w1 ⟨rfl, hb⟩; replace hB := Lib.hid (hB.out.trans (hb.mono hB.out.size)))
        go_ret
        exact ⟨rfl, hB.out⟩
      · simp only [if_true] at C
        go_wp2_with (go_at_call 10; (with_reducible refine C.out.mono ?_); rintro e w1 ⟨rfl, hb⟩; replace hB := Lib.hid (hB.out.trans (hb.mono hB.out.size)))
        clear C
        go_loopw [9] (fun i wr => ∃ k : Nat, k ≤ l.length ∧ i = .int .i64 k ∧ Below w.heap.size w wr) (fun i _ => l.length - (intOf i).toNat)
        case atStart => exact ⟨0, by omega, rfl, hB.out⟩
        case round =>
          obtain ⟨k, hk, rfl, hB⟩ := hrel
          have hP := Lib.hid (H.out.below hB)
          replace hB := Lib.hid hB
          by_cases hlt : k < l.length
          · have C := Lib.hid (rd27_c _ S G B l hP.out k hlt)
            have wl := u32_small k (by omega)
            go_wp2_with (go_at_call 27; (with_reducible refine C.out.mono ?_); rintro e w1 ⟨rfl, hb⟩; replace hB := Lib.hid (hB.out.trans (hb.mono hB.out.size)))
            go_roundw
            case rel => exact ⟨k + 1, by omega, by go_num, hB.out⟩
            case measure => simp [intOf]; omega
          · obtain rfl : k = l.length := by omega
            go_wp2
            go_ret
            exact ⟨rfl, hB.out⟩
/-- a slice of texts and one of numbers, as the table has them -/
def RowN (w : World) (A : Option Addr) (l : List SyR) : Prop := ∀ (i : Nat) (r : SyR), l[i]? = some r → ∃ x, A = some x ∧ w.cell? (x.add i) = some (.string r.name)
def RowU (w : World) (A : Option Addr) (l : List SyR) : Prop := ∀ (i : Nat) (r : SyR), l[i]? = some r → ∃ x, A = some x ∧ w.cell? (x.add i) = some (.int .u32 r.uses)
theorem RowN.after {w w' : World} {A : Option Addr} {l : List SyR} (h : RowN w A l) (hb : Below w.heap.size w w') : RowN w' A l := fun i r hi => by
  obtain ⟨x, e, hc⟩ := h i r hi
  exact ⟨x, e, ac hb hc⟩
theorem RowU.after {w w' : World} {A : Option Addr} {l : List SyR} (h : RowU w A l) (hb : Below w.heap.size w w') : RowU w' A l := fun i r hi => by
  obtain ⟨x, e, hc⟩ := h i r hi
  exact ⟨x, e, ac hb hc⟩
set_option maxRecDepth 100000 in
set_option maxHeartbeats 2000000 in
theorem table11_c (w : World) (S : Nat → Prop) (G B : Nat) (mk : Bool) (l : List SyR) (h : PS w S G B mk l) (hl : l.length ≤ 1048576) (A1 A2 : Option Addr) (c1 c2 : Nat) (h1 : RowN w A1 l) (h2 : RowU w A2 l) :
    Calls Tryd.prog 11 #[.pointer (some ⟨B, 0, none⟩), .slice A1 l.length c1, .slice A2 l.length c2, .bool mk] w (Gv (.bool true) w) := by
  have H := Lib.hid h
  have C9 := Lib.hid (cnt9_c w S G B mk l h)
  have H1 := Lib.hid h1; have H2 := Lib.hid h2
  clear h h1 h2
  go_enter Tryd.func11, Tryd.ntmps11
  go_upto_region 3 with (go_at_call 9; (with_reducible refine C9.out.mono ?_); rintro e w0 ⟨rfl, hb0⟩; replace hb0 := Lib.hid hb0)
  clear C9
  go_wp2
  go_loopw [9] (fun i wr => ∃ k : Nat, k ≤ l.length ∧ i = .int .i64 k ∧ Below w.heap.size w wr) (fun i _ => l.length - (intOf i).toNat)
  case atStart => exact ⟨0, by omega, rfl, hb0.out⟩
  case round =>
    clear hb0
    obtain ⟨k, hk, rfl, hB⟩ := hrel
    have hP := Lib.hid (H.out.below hB)
    replace hB := Lib.hid hB
    by_cases hlt : k < l.length
    · obtain ⟨r, hr⟩ : ∃ r, l[k]? = some r := ⟨l[k], List.getElem?_eq_getElem hlt⟩
      obtain ⟨x1, e1, d1⟩ := (H1.out.after hB.out) k r hr
      obtain ⟨x2, e2, d2⟩ := (H2.out.after hB.out) k r hr
      subst e1 e2
      have j0 : (0 : Int) ≤ (k : Int) := by omega
      have j1 : (k : Int) < (l.length : Int) := by omega
      have C20 := Lib.hid (fun d os => rd20_c (Sort.grow (redrawn wr d) os) S G B mk l (hP.out.below (below_regrown wr d os)) k r hr)
      have y1 := fun d os => cell_regrown d1 d os
      go_upto_region 6 with fail
      refine drawn_tail 7 (by kernel_rfl) (by kernel_rfl) (by kernel_rfl) (fun Q hQ => ?_)
      simp only [List.take_succ_cons, List.take_zero, List.drop_succ_cons, List.drop_zero]
      repeat (quiet_step (exact Calls.regrown_of (C20.out _ _)))
      refine wpQuiet_nil ?_
      intro W2 hw
      have hb1 : Below wr.heap.size wr W2 := by
        obtain ⟨⟨d, os⟩, rfl⟩ := hw
        exact below_regrown _ d os
      clear hw
      have hP2 := Lib.hid (hP.out.below hb1)
      have d2' := ac hb1 d2
      have hB2 := Lib.hid (hB.out.trans (hb1.mono hB.out.size))
      clear y1 C20 hb1 hB hP d1 d2
      go_upto_region 8 with fail
      have C21 := Lib.hid (fun d os => rd21_c (Sort.grow (redrawn W2 d) os) S G B mk l (hP2.out.below (below_regrown W2 d os)) k r hr)
      have y2 := fun d os => cell_regrown d2' d os
      refine drawn_tail 7 (by kernel_rfl) (by kernel_rfl) (by kernel_rfl) (fun Q hQ => ?_)
      simp only [List.take_succ_cons, List.take_zero, List.drop_succ_cons, List.drop_zero]
      repeat (quiet_step (exact Calls.regrown_of (C21.out _ _)))
      refine wpQuiet_nil ?_
      intro W3 hw
      have hb1 : Below W2.heap.size W2 W3 := by
        obtain ⟨⟨d, os⟩, rfl⟩ := hw
        exact below_regrown _ d os
      clear hw
      have hB3 := Lib.hid (hB2.out.trans (hb1.mono hB2.out.size))
      clear y2 C21 hb1 hB2 hP2
      go_wp2
      go_roundw
      case rel => exact ⟨k + 1, by omega, by go_num, hB3.out⟩
      case measure => simp [intOf]; omega
    · obtain rfl : k = l.length := by omega
      have C := Lib.hid (kinds22_c wr S G B mk l hP.out hl)
      go_wp2_with (go_at_call 22; (with_reducible refine C.out.mono ?_); rintro e w1 ⟨rfl, hb⟩; replace hB := Lib.hid (hB.out.trans (hb.mono hB.out.size)))
      go_ret
      exact ⟨rfl, hB.out⟩
end Go.Proofs.YtoebloceibfboaaDoor
