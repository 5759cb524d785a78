/- isValidCustomIdent and the law's model of it, walked. -/
import Derived.Test.YtpjbhbbhkhfiaaaDoorCi4
set_option linter.unusedVariables false
set_option linter.unusedSimpArgs false
namespace Go.Proofs.YtpjbhbbhkhfiaaaDoor
open Go.RowKit
/-- what strings.ToLower answers from w on -/
def Low (low : ByteArray → ByteArray) (w : World) : Prop := ∀ s w', s.size ≤ 1048576 → Below w.heap.size w w' → Calls Tryd.prog 29 #[.string s] w' (fun e w2 => e = .returned (.string (low s)) ∧ Below w'.heap.size w' w2)
/-- the variable cssWideAndReservedKeywords answers by 'res' -/
def Res (res : ByteArray → Bool) (w : World) : Prop := ∃ bm es clock, w.cell? ⟨0, 0, none⟩ = some (.map (some bm)) ∧ w.heap[bm]? = some (.map es clock) ∧
  ∀ (s : ByteArray) (W : World), s.size ≤ maxLen → W.heap[bm]? = some (.map es clock) → (Instr.lookup 47 (.map (some bm)) (.string s) false).run Tryd.prog W = .ok (.bool (res s)) W
theorem Res.look {res : ByteArray → Bool} {w w' : World} (h : Res res w) (hb : Below w.heap.size w w') : ∃ bm, w'.cell? ⟨0, 0, none⟩ = some (.map (some bm)) ∧ ∀ (s : ByteArray) (W : World), s.size ≤ maxLen → Below w.heap.size w W → (Instr.lookup 47 (.map (some bm)) (.string s) false).run Tryd.prog W = .ok (.bool (res s)) W := by
  obtain ⟨bm, es, clock, h1, h2, h3⟩ := h
  exact ⟨bm, ac hb h1, fun s W hs hW => h3 s W hs (by rw [hW.block _ (Array.getElem?_eq_some_iff.1 h2).1]; exact h2)⟩
/-- a text of letters that may stand in a name -/
def ncAll (s : ByteArray) : Bool := s.data.toList.all fun c => ncN c.toNat
theorem ncAll_no {s : ByteArray} {k : Nat} (h : k < s.size) (hb : ncN (bN s k) = false) : ncAll s = false := by
  unfold ncAll
  rw [List.all_eq_false]
  have h' : k < s.data.size := h
  refine ⟨s[k]'h, Array.mem_toList_iff.2 (Array.getElem_mem h'), ?_⟩
  rw [bN_at s k h, hb]; decide
theorem ncAll_yes {s : ByteArray} (h : ∀ k, k < s.size → ncN (bN s k) = true) : ncAll s = true := by
  unfold ncAll
  rw [List.all_eq_true]
  intro c hc
  obtain ⟨k, hk, rfl⟩ := Array.mem_iff_getElem.1 (Array.mem_toList_iff.1 hc)
  have := h k hk
  rw [← bN_at s k hk] at this
  exact this
theorem pos_of {s : ByteArray} (h : s.toList ≠ []) : 0 < s.size := by
  rw [ByteArray.toList_eq] at h
  rcases Nat.eq_zero_or_pos s.size with q | q
  · exact absurd (List.eq_nil_of_length_eq_zero (by rw [Array.length_toList]; exact q)) h
  · exact q
/-- the answer about a text whose lower case is L -/
def vdB (eqk res : Bool) (s L : ByteArray) : Bool := !eqk && !res && !L.toList.isEmpty && stB s && ncAll s
theorem iter_below {B : Nat} {w W : World} (h : Below B w W) (hB : B ≤ W.heap.size) (s : ByteArray) (p : Nat) : Below B w (W.iter s p) := h.alloc hB _
set_option maxRecDepth 100000 in
set_option maxHeartbeats 2000000 in
theorem valid_loop (s L : ByteArray) (w0 w : World) (h : s.size ≤ 1048576) (hp : prB s = true) (bm bp : Nat) (hle : L.toList.isEmpty = s.toList.isEmpty) (h2 : 0 < s.size → bN s 0 = 45 → 2 ≤ s.size) (hL : ∀ w', Below w.heap.size w w' → Calls Tryd.prog 29 #[.string s] w' (fun e w2 => e = .returned (.string L) ∧ Below w'.heap.size w' w2))
    (hc0 : ∀ W, Below w.heap.size w W → W.cell? ⟨0, 0, none⟩ = some (.map (some bm))) (r1 r2 r4 : Bool) (hk1 : ∀ W, Below w.heap.size w W → (Instr.lookup 47 (.map (some bp)) (.string L) false).run Tryd.prog W = .ok (.bool r1) W) (hk2 : ∀ W, Below w.heap.size w W → (Instr.lookup 47 (.map (some bm)) (.string L) false).run Tryd.prog W = .ok (.bool r2) W) :
    Calls Tryd.prog 24 #[.string s, .map (some bp)] w (fun e w' => e = .returned (.bool (vdB r1 r2 s L)) ∧ Below w.heap.size w w') := by
  have HL := Lib.hid (hL w (Below.refl _ _))
  have HC := Lib.hid hc0
  have HK1 := Lib.hid hk1
  have HK2 := Lib.hid hk2
  have H2 := Lib.hid h2
  have HLE := Lib.hid hle
  clear hL hc0 hk1 hk2 h2 hle
  go_enter Tryd.func24, Tryd.ntmps24
  go_upto_region 2 with (go_at_call 29; (with_reducible refine HL.out.mono ?_); rintro e w1 ⟨rfl, hb1⟩)
  have k1 := HK1.out w1 hb1
  have k2 := HK2.out w1 hb1
  have c0 := HC.out w1 hb1
  clear HL HC HK1 HK2
  have hB := Lib.hid hb1
  clear hb1
  cases r1 with
  | true =>
    have E : Hid (vdB true r2 s L = false) := Lib.hid (by simp [vdB])
    clear k2 c0
    go_wp2
    go_ret
    exact ⟨ret_bool E.out.symm, hB.out⟩
  | false =>
    cases r2 with
    | true =>
      have E : Hid (vdB false true s L = false) := Lib.hid (by simp [vdB])
      go_wp2
      go_ret
      exact ⟨ret_bool E.out.symm, hB.out⟩
    | false =>
      cases hLe : L.toList with
      | nil =>
        have E : Hid (vdB false false s L = false) := Lib.hid (by simp [vdB, hLe])
        go_wp2
        go_ret
        exact ⟨ret_bool E.out.symm, hB.out⟩
      | cons a t =>
        have e0 : L.toList.isEmpty = false := by rw [hLe]; rfl
        have e1 : (!L.toList.isEmpty) = true := by rw [e0]; rfl
        have e2 : (L.toList == []) = false := by rw [hLe]; rfl
        clear hLe
        have h1 : 0 < s.size := pos_of (fun q => by have := HLE.out; rw [e0, q] at this; cases this)
        have CW := Lib.hid (fun w => would_c s w h h1 hp (H2.out h1))
        clear H2 HLE
        cases hst : stB s with
        | false =>
          have E : Hid (vdB false false s L = false) := Lib.hid (by simp [vdB, hst])
          rw [hst] at CW
          clear hst
          go_wp2_with (go_at_call 31; (with_reducible refine (CW.out _).mono ?_); rintro e w' ⟨rfl, rfl⟩)
          go_ret
          exact ⟨ret_bool E.out.symm, hB.out⟩
        | true =>
          have E : Hid (vdB false false s L = ncAll s) := Lib.hid (by simp [vdB, hst, e0])
          rw [hst] at CW
          clear hst
          have HP := Lib.hid hp
          clear hp
          go_wp2_with (go_at_call 31; (with_reducible refine (CW.out _).mono ?_); rintro e w' ⟨rfl, rfl⟩)
          go_loopw [7] (fun _ wr => ∃ p : Nat, p ≤ s.size ∧ wr = w1.iter s p ∧ Hid (∀ j, j < p → ncN (bN s j) = true)) (fun _ wr => s.size - wr.iterPos w1.heap.size)
          case atStart => exact ⟨0, by omega, rfl, Lib.hid fun j h => by omega⟩
          case round =>
            obtain ⟨p, hpl, rfl, H⟩ := hrel
            by_cases hlt : p < s.size
            · have hr := bN_rng HP.out p hlt
              have ha : (s[p]'hlt).toNat < 128 := by have := bN_at s p hlt; omega
              have kn := fun ty => run_next_any (P := Tryd.prog) w1 s p ty hlt
              rw [decode_ascii s p hlt ha] at kn
              simp only [bN_at] at kn
              have C3 := Lib.hid (fun w => nc32_c (bN s p) w hr.1 hr.2)
              clear ha hr
              cases hnc : ncN (bN s p) with
              | false =>
                have E2 := Lib.hid (ncAll_no hlt hnc)
                rw [hnc] at C3
                clear hnc
                go_wp2_with (go_at_call 32; (with_reducible refine (C3.out _).mono ?_); rintro e w' ⟨rfl, rfl⟩)
                go_ret
                exact ⟨ret_bool (by rw [E.out, E2.out]), iter_below hB.out hB.out.size _ _⟩
              | true =>
                have HN := Lib.hid hnc
                rw [hnc] at C3
                clear hnc
                go_wp2_with (go_at_call 32; (with_reducible refine (C3.out _).mono ?_); rintro e w' ⟨rfl, rfl⟩)
                go_roundw
                case rel => exact ⟨p + 1, by omega, rfl, Lib.hid fun j hj => by
                  by_cases e : j = p
                  · subst e; exact HN.out
                  · exact H.out j (by omega)⟩
                case measure => simp; omega
            · have kn := fun ty => run_next_end (P := Tryd.prog) w1 s p ty hlt
              have E2 := Lib.hid (ncAll_yes fun j hj => H.out j (by omega))
              clear H
              go_wp2
              go_ret
              exact ⟨ret_bool (by rw [E.out, E2.out]), iter_below hB.out hB.out.size _ _⟩
end Go.Proofs.YtpjbhbbhkhfiaaaDoor
