/- FnDeadRuleManglerFreshForgets: the law's small functions, the plain law. -/
import Derived.Test.YtidmdcadejfjhaaDrk
set_option linter.unusedVariables false
set_option linter.unusedSimpArgs false
namespace Go.Proofs.Ytidmdcadejfjhaa
open Go.RowKit
set_option maxRecDepth 100000
set_option maxHeartbeats 4000000
theorem stp_congr {K K' : Nat → KeyR} {n : Nat} {S : List KeyR} (h : ∀ j, j < n → K j = K' j) : ∀ m, m ≤ n → stp K n S m = stp K' n S m
  | 0, _ => rfl
  | m + 1, hm => by
    rw [stp, stp, stp_congr h m (by omega), h (n - 1 - m) (by omega)]
theorem stp_sub (K : Nat → KeyR) (n : Nat) (S : List KeyR) (x : KeyR) (hx : x ∈ S) : ∀ m, x ∈ (stp K n S m).1
  | 0 => hx
  | m + 1 => by
    have := stp_sub K n S x hx m
    rw [stp]
    split
    · exact this
    · exact List.mem_cons_of_mem _ this
theorem stp_seen (K : Nat → KeyR) (n : Nat) (S : List KeyR) : ∀ m, m ≤ n → ∀ i, i < n → n - m ≤ i → deadR (K i) = true ∨ K i ∈ (stp K n S m).1
  | 0, _, i, h1, h2 => by omega
  | m + 1, hm, i, h1, h2 => by
    by_cases e : i = n - 1 - m
    · subst e
      rw [stp]
      by_cases hc : (deadR (K (n - 1 - m)) || decide (K (n - 1 - m) ∈ (stp K n S m).1)) = true
      · rw [if_pos hc]
        simpa using hc
      · rw [if_neg hc]
        exact .inr (List.mem_cons_self ..)
    · rcases stp_seen K n S m (by omega) i h1 (by omega) with h | h
      · exact .inl h
      · right
        rw [stp]
        split
        · exact h
        · exact List.mem_cons_of_mem _ h
theorem stp_none (K : Nat → KeyR) (n : Nat) (S : List KeyR) (h : ∀ i, i < n → deadR (K i) = true ∨ K i ∈ S) : ∀ m, m ≤ n → stp K n S m = (S, [])
  | 0, _ => rfl
  | m + 1, hm => by
    rw [stp, stp_none K n S h m (by omega), if_pos]
    rcases h (n - 1 - m) (by omega) with h | h
    · rw [h]; rfl
    · rw [decide_eq_true h]; simp
/-- shown again, all is dropped -/
theorem stp_again (K K' : Nat → KeyR) (n : Nat) (h : ∀ j, j < n → K j = K' j) (S : List KeyR) : (stp K' n (stp K n S n).1 n).2 = [] := by
  rw [stp_none K' n _ (fun i hi => by rw [← h i hi]; exact stp_seen K n S n (Nat.le_refl _) i hi (by omega)) n (Nat.le_refl _)]
/-- the places of a list of rules -/
def RLo (w : World) (A : Option Addr) (n : Nat) (f : Nat → Int) : Prop := ∀ i, i < n → ∃ b o, A = some ⟨b, o, none⟩ ∧ w.cell? ⟨b, o + i * 2 + 1, none⟩ = some (.int .i32 (f i))
theorem RLo.below {w w' : World} {A : Option Addr} {n : Nat} {f : Nat → Int} (h : RLo w A n f) (hb : Below w.heap.size w w') : RLo w' A n f := fun i hi => by
  obtain ⟨b, o, e, hc⟩ := h i hi
  exact ⟨b, o, e, ac hb hc⟩
theorem same10_c (A B : Option Addr) (n c c' : Nat) (f : Nat → Int) (w : World) (hn : n ≤ 4096) (hA : RLo w A n f) (hB : RLo w B n f) : Calls Try.prog 10 #[.slice A n c, .slice B n c'] w (RetV (.bool true) w) := by
  replace hA := Lib.hid hA
  replace hB := Lib.hid hB
  go_enter Try.func10, Try.ntmps10
  go_wp2
  go_loopw [5] (fun i wr => ∃ k : Nat, k ≤ n ∧ i = .int .i64 k ∧ Below w.heap.size w wr) (fun i _ => n - (intOf i).toNat)
  case atStart => exact ⟨0, by omega, rfl, Below.refl _ _⟩
  case round =>
    obtain ⟨k, hk, rfl, hb⟩ := hrel
    obtain ⟨Wo, rfl⟩ : ∃ y, y = wr := ⟨_, rfl⟩
    by_cases hlt : k < n
    · obtain ⟨b1, o1, rfl, d1⟩ := (hA.out.below hb) k hlt
      obtain ⟨b2, o2, rfl, d2⟩ := (hB.out.below hb) k hlt
      generalize f k = x at *
      replace hb := Lib.hid hb
      have i0 : (0 : Int) ≤ k := by omega
      have i1 : (k : Int) < n := by omega
      have y1 := fun d os => cell_regrown d1 d os
      have y2 := fun d os => cell_regrown d2 d os
      go_upto_region 6 with fail
      refine drawn_tail 12 (by kernel_rfl) (by kernel_rfl) (by kernel_rfl) (fun Q hQ => ?_)
      simp only [List.take_succ_cons, List.take_zero, List.drop_succ_cons, List.drop_zero]
      repeat quiet_step (fail)
      refine wpQuiet_nil ?_
      intro W6 hw
      have b6 : Hid (Below Wo.heap.size Wo W6) := Lib.hid (by
        obtain ⟨⟨d, os⟩, rfl⟩ := hw
        exact below_regrown _ d os)
      clear hw y1 y2
      go_wp2
      exact ⟨⟨k + 1, by omega, by go_num, hb.out.trans (b6.out.mono hb.out.size)⟩, by simp [intOf] <;> omega⟩
    · obtain rfl : k = n := by omega
      go_wp2
      go_ret
      exact ⟨rfl, hb⟩
def Sm5 (n : Nat) (w : World) (e : Ending) (w' : World) : Prop := ∃ b : Bool, e = .returned (.bool b) ∧ (b = true → n ≤ 1048576) ∧ w = w'
def Sm6 (n : Nat) (w : World) (e : Ending) (w' : World) : Prop := ∃ b : Bool, e = .returned (.bool b) ∧ (b = false → n ≤ 4096) ∧ w = w'
theorem zz5_c (A0 A1 A2 A3 A4 : Option Addr) (n0 n1 n2 n3 n4 c0 c1 c2 c3 c4 : Nat) (w : World) (m0 : n0 ≤ maxLen) (m1 : n1 ≤ maxLen) (m2 : n2 ≤ maxLen) (m3 : n3 ≤ maxLen) (m4 : n4 ≤ maxLen) : Calls Try.prog 5 #[.slice A0 n0 c0, .slice A1 n1 c1, .slice A2 n2 c2, .slice A3 n3 c3, .slice A4 n4 c4] w (Sm5 (n0 + n1 + n2 + n3 + n4) w) := by
  unfold maxLen at m0 m1 m2 m3 m4
  go_enter Try.func5, Try.ntmps5
  go_wp2_with fail
  all_goals (go_ret; exact ⟨_, rfl, (fun h => by first | exact absurd h (by decide) | omega), rfl⟩)
theorem big6_c (A0 A1 A2 A3 A4 : Option Addr) (n0 n1 n2 n3 n4 c0 c1 c2 c3 c4 : Nat) (w : World) (hs : n0 + n1 + n2 + n3 + n4 ≤ 1048576) : Calls Try.prog 6 #[.slice A0 n0 c0, .slice A1 n1 c1, .slice A2 n2 c2, .slice A3 n3 c3, .slice A4 n4 c4] w (Sm6 n0 w) := by
  by_cases h : n0 ≤ 4096
  · go_enter Try.func6, Try.ntmps6
    go_wp2_with fail
    all_goals (go_ret; exact ⟨_, rfl, (fun _ => h), rfl⟩)
  · have h' : ¬ ((n0 : Int) ≤ 4096) := by omega
    go_enter Try.func6, Try.ntmps6
    go_wp2_with fail
    all_goals (go_ret; exact ⟨_, rfl, (fun h => by first | exact absurd h (by decide) | omega | (simp at h; omega)), rfl⟩)
theorem Seg.set {w : World} {b : Nat} {vs : List Value} (h : Seg w b 0 vs) (j : Nat) (v : Value) (hj : j < vs.length) : Seg (w.setCell ⟨b, j, none⟩ v) b 0 (vs.set j v) := fun i u hi => by
  rw [List.getElem?_set] at hi
  rw [Nat.zero_add]
  by_cases e : j = i
  · subst e
    rw [if_pos rfl, if_pos hj] at hi
    have := h j vs[j] (List.getElem?_eq_getElem hj)
    rw [Nat.zero_add] at this
    rw [cs this]
    exact hi
  · rw [if_neg e] at hi
    have := h i u hi
    rw [Nat.zero_add] at this
    rw [co (by intro q; injection q; omega)]
    exact this
abbrev zM (bm : Nat) : Array Value := #[.map (some bm), .slice none 0 0, .slice none 0 0, .slice none 0 0, .slice none 0 0, .int .u32 0, .int .u32 0]
def MkP (w : World) (e : Ending) (w' : World) : Prop := ∃ bm, e = .returned (.agg (zM bm)) ∧ w.heap.size ≤ bm ∧ w'.heap[bm]? = some (.map #[] 0) ∧ Below w.heap.size w w'
theorem mk8_c (w : World) : Calls Try.prog 8 #[.agg #[.slice none 0 0]] w (MkP w) := by
  have hmm := @run_makeMap Try.prog
  go_enter Try.func8, Try.ntmps8
  go_upto_region 1 with fail
  refine wp_gen (fun W hW => ?_)
  have bW : Hid (Below w.heap.size w W) := Lib.hid (by rw [hW]; exact (ba _ _).alloc (by simp) _)
  have rW : Room W (w.heap.size + 1) 7 := by rw [hW]; have := Room.newN (w.alloc (.cells #[.slice none 0 0] 34)) #[.map none, .slice none 0 0, .slice none 0 0, .slice none 0 0, .slice none 0 0, .int .u32 0, .int .u32 0] (n := 7) rfl 39; simpa using this
  have c0 : W.cell? ⟨w.heap.size, 0, none⟩ = some (.slice none 0 0) := by rw [hW]; simp [go_sem]
  clear hW
  have c0' := fun o => al c0 o
  obtain ⟨v0, x0, y0⟩ := rW 0 (by omega); obtain ⟨v1, x1, y1⟩ := rW 1 (by omega); obtain ⟨v2, x2, y2⟩ := rW 2 (by omega); obtain ⟨v3, x3, y3⟩ := rW 3 (by omega); obtain ⟨v4, x4, y4⟩ := rW 4 (by omega); obtain ⟨v5, x5, y5⟩ := rW 5 (by omega); obtain ⟨v6, x6, y6⟩ := rW 6 (by omega)
  have z0 := fun o => al x0 o; have z1 := fun o => al x1 o; have z2 := fun o => al x2 o; have z3 := fun o => al x3 o; have z4 := fun o => al x4 o; have z5 := fun o => al x5 o; have z6 := fun o => al x6 o
  have t0 := fun o => af (ba W o) x0 y0; have t1 := fun o => af (ba W o) x1 y1; have t2 := fun o => af (ba W o) x2 y2; have t3 := fun o => af (ba W o) x3 y3; have t4 := fun o => af (ba W o) x4 y4; have t5 := fun o => af (ba W o) x5 y5; have t6 := fun o => af (ba W o) x6 y6
  have lt := rW.lt (by omega)
  go_wp2
  have Z : ∀ (w1 : World) (j : Nat) (v : Value), Kp (fun b => b = w.heap.size + 1) W w1 ∧ w1.heap.size = W.heap.size → Kp (fun b => b = w.heap.size + 1) W (w1.setCell ⟨w.heap.size + 1, j, none⟩ v) ∧ (w1.setCell ⟨w.heap.size + 1, j, none⟩ v).heap.size = W.heap.size := fun w1 j v hh => ⟨hh.1.set _ _ (.inl rfl), by simp [hh.2]⟩
  have K := Z _ 6 (.int .u32 0) (Z _ 5 (.int .u32 0) (Z _ 4 (.slice none 0 0) (Z _ 3 (.slice none 0 0) (Z _ 2 (.slice none 0 0) (Z _ 1 (.slice none 0 0) (Z _ 0 (.map (some W.heap.size)) ⟨Kp.refl W, rfl⟩))))))
  have R : ∀ WS : World, Kp (fun b => b = w.heap.size + 1) W WS ∧ WS.heap.size = W.heap.size → MkP w (.returned (.agg (zM W.heap.size))) (WS.alloc (.map #[] 0)) := fun WS hh => ⟨W.heap.size, rfl, bW.out.size, by rw [← hh.2]; exact heap_alloc_new _ _, (bW.out.trans (hh.1.below bW.out.size (fun b e => by omega))).trans ((ba WS _).mono (by rw [hh.2]; exact bW.out.size))⟩
  have F := R _ K
  have s0 : Seg W (w.heap.size + 1) 0 [v0, v1, v2, v3, v4, v5, v6] := fun j v hj => by
    rw [Nat.zero_add]
    match j, hj with
    | 0, hj => simp at hj; subst hj; exact x0
    | 1, hj => simp at hj; subst hj; exact x1
    | 2, hj => simp at hj; subst hj; exact x2
    | 3, hj => simp at hj; subst hj; exact x3
    | 4, hj => simp at hj; subst hj; exact x4
    | 5, hj => simp at hj; subst hj; exact x5
    | 6, hj => simp at hj; subst hj; exact x6
    | j + 7, hj => simp at hj
  have s7 := (((((((s0.set 0 (.map (some W.heap.size)) (by simp)).set 1 (.slice none 0 0) (by simp)).set 2 (.slice none 0 0) (by simp)).set 3 (.slice none 0 0) (by simp)).set 4 (.slice none 0 0) (by simp)).set 5 (.int .u32 0) (by simp)).set 6 (.int .u32 0) (by simp)).after (ba _ (.map #[] 0))
  have q0 := s7 0 _ rfl; have q1 := s7 1 _ rfl; have q2 := s7 2 _ rfl; have q3 := s7 3 _ rfl; have q4 := s7 4 _ rfl; have q5 := s7 5 _ rfl; have q6 := s7 6 _ rfl
  simp only [Nat.zero_add] at q0 q1 q2 q3 q4 q5 q6
  clear Z K R s0 s7 c0' z0 z1 z2 z3 z4 z5 z6 t0 t1 t2 t3 t4 t5 t6 x0 x1 x2 x3 x4 x5 x6
  exact bodyPost_ret (v := .agg (zM W.heap.size)) (by simp [results, Try.results8, go_sem, q0, q1, q2, q3, q4, q5, q6]) rfl F
end Go.Proofs.Ytidmdcadejfjhaa
