/- FnParseAnyValueMatchesRecursiveModel: the law's walk. -/
import Derived.Test.YtfklgdecaknbaaaFmtAn4
import Derived.Test.YtfklgdecaknbaaaFmtArg
set_option linter.unusedVariables false
set_option linter.unusedSimpArgs false
namespace Go.Proofs.YtfklgdecaknbaaaFmt
open Go.RowKit
theorem Rn_ge {n i : Nat} {K : Nat → Int} (hi : i ≤ n) : i ≤ Rn (cl n K) n i [] := by
  rw [(same_end (cl_eof n K) (n - i) i (Nat.le_refl _) hi).2 0]
  exact Sn_ge _ _ _
set_option maxRecDepth 100000 in
set_option maxHeartbeats 2000000 in
theorem walk (A : Option Addr) (n c : Nat) (K : Nat → Int) (i : Int) (w : World) (ha : ArgI .u8 w A n c K) :
    Calls Tryf.prog 3 #[.slice A n c, .int .i64 i] w fun e w' => e = .returned (.bool true) ∧ Below w.heap.size w w' := by
  have hnm : n ≤ maxLen := Nat.le_trans ha.le ha.max
  have Z := Lib.hid (bytes4_c A n c i w hnm)
  by_cases h65 : n ≤ 65536
  · by_cases h0 : 0 ≤ i
    · by_cases h1 : i ≤ n
      · obtain ⟨m, rfl⟩ : ∃ m : Nat, i = m := ⟨i.toNat, by omega⟩
        have hmn : m ≤ n := by omega
        have hn : n ≤ 1048576 := by omega
        obtain ⟨d, hd⟩ : ∃ d, Rn (cl n K) n m [] = m + d := ⟨Rn (cl n K) n m [] - m, by have := Rn_ge (K := K) hmn; omega⟩
        have hdl : m + d ≤ n := by rw [← hd]; exact Rn_le n K _ m [] (Nat.le_refl _) hmn
        have R := Lib.hid ha.row
        have NI := Lib.hid ha.nil
        clear ha
        have C6 := Lib.hid (fun A' c' w1 (h : Row .u8 w1 A' n K) => (show Calls Tryf.prog 6 #[.slice A' n c', .int .i64 m] w1 (fun e w' => e = .returned (.int .i64 d) ∧ Below w1.heap.size w1 w') from by
          have := count6_c A' n c' m K w1 hn hmn h
          rw [hd, show ((m + d : Nat) : Int) - (m : Int) = (d : Int) by omega] at this
          exact this))
        by_cases hz : d = 0
        · subst hz
          go_enter Tryf.func3, Tryf.ntmps3
          go_wp2_with (first | (go_at_call 4; (with_reducible refine Z.out.mono ?_); rintro e w1 ⟨b, rfl, -, rfl⟩; cases b) | (go_at_call 5; (with_reducible refine (clone5_c A n c K _ hn NI.out R.out.v).mono ?_); rintro e w1 ⟨A1, rfl, -, -, r1, hb1⟩; replace r1 := Lib.hid r1.r; replace hb1 := Lib.hid hb1) | (go_at_call 6; (with_reducible refine (C6.out _ _ _ r1.out).mono ?_); rintro e w2 ⟨rfl, hb2⟩; replace hb2 := Lib.hid (hb1.out.trans (hb2.mono hb1.out.size))))
          all_goals (go_ret; first | exact ⟨rfl, Below.refl _ _⟩ | exact ⟨rfl, hb2.out⟩)
        · have C9 := Lib.hid (fun b T w1 (h : PS w1 b T n m ⟨#[]⟩ K posS (fun _ => 1)) (hst : w1.cell? ⟨b, 19, none⟩ = some (.slice none 0 0)) (hfr : w1.frozen? ⟨b, 19, none⟩ = false) => (show Calls Tryf.prog 9 #[.pointer (some ⟨b, 0, none⟩)] w1 (fun e w' => e = .returned (.int .i64 d) ∧ w'.cell? ⟨b, 42, none⟩ = some (.int .i64 ((m : Int) + d)) ∧ Kp (fun k => k = b) w1 w') from by
            have := zz9_c b n m K w1 (any12_c b T n m ⟨#[]⟩ K posS (fun _ => 1) w1 h hst hfr (block_lt_of_cell (h.tk 0 (by omega)).1) hn (by decide) hmn (by omega))
            unfold ZzB at this
            rw [hd, show m + d - m = d by omega] at this
            push_cast at this
            exact this))
          have hz2 : ((d : Int) == 0) = false := by simpa using hz
          clear hd
          go_enter Tryf.func3, Tryf.ntmps3
          go_wp2_with (first | (go_at_call 4; (with_reducible refine Z.out.mono ?_); rintro e w1 ⟨b, rfl, -, rfl⟩; cases b) | (go_at_call 5; (with_reducible refine (clone5_c A n c K _ hn NI.out R.out.v).mono ?_); rintro e w1 ⟨A1, rfl, -, -, r1, hb1⟩; replace r1 := Lib.hid r1.r; replace hb1 := Lib.hid hb1) | (go_at_call 6; (with_reducible refine (C6.out _ _ _ r1.out).mono ?_); rintro e w2 ⟨rfl, hb2⟩; replace r1 := Lib.hid (r1.out.after hb2); replace hb1 := Lib.hid (hb1.out.trans (hb2.mono hb1.out.size)); clear hb2) | (go_at_call 7; (with_reducible refine (pos7_c n _ h65).mono ?_); rintro e w3 ⟨A2, A3, rfl, q1, q2, hb3⟩; replace q1 := Lib.hid q1; replace q2 := Lib.hid q2; replace r1 := Lib.hid (r1.out.after hb3); replace hb1 := Lib.hid (hb1.out.trans (hb3.mono hb1.out.size)); clear hb3) | (go_at_call 8; go_loud (with_reducible refine (new14_c ⟨#[]⟩ _ _ _ n _ _ _ (m : Int) K posS (fun _ => 1) _ hn (by decide) r1.out q1.out q2.out).mono ?_); rintro e w4 ⟨b, T, rfl, hps, hbb, hst, hfr, hb4⟩; replace hbb := Lib.hid (Nat.le_trans hb1.out.size hbb); replace hb1 := Lib.hid (hb1.out.trans (hb4.mono hb1.out.size)); replace hps := Lib.hid hps; replace hst := Lib.hid hst; replace hfr := Lib.hid hfr; clear hb4) | (go_at_call 9; (with_reducible refine (C9.out _ _ _ hps.out hst.out hfr.out).mono ?_); rintro e w5 ⟨rfl, hcur, hk⟩; replace hcur := Lib.hid hcur; replace hb1 := Lib.hid (hb1.out.trans (hk.below hb1.out.size (fun k e => by rw [e]; exact hbb.out))); clear hk) | (go_at_call 10; (with_reducible refine (index10_c _ _ _ hcur.out).mono ?_); rintro e w6 ⟨rfl, rfl⟩))
          all_goals (go_ret; first | exact ⟨rfl, Below.refl _ _⟩ | exact ⟨rfl, hb1.out⟩ | exact ⟨by simp, hb1.out⟩)
      · have h2 : (n : Int) < i := by omega
        clear ha
        go_enter Tryf.func3, Tryf.ntmps3
        go_wp2_with (go_at_call 4; (with_reducible refine Z.out.mono ?_); rintro e w1 ⟨b, rfl, -, rfl⟩; cases b)
        all_goals (go_ret; exact ⟨rfl, Below.refl _ _⟩)
    · have h2 : i < 0 := by omega
      clear ha
      go_enter Tryf.func3, Tryf.ntmps3
      go_wp2_with (go_at_call 4; (with_reducible refine Z.out.mono ?_); rintro e w1 ⟨b, rfl, -, rfl⟩; cases b)
      all_goals (go_ret; exact ⟨rfl, Below.refl _ _⟩)
  · have h2 : 65536 < (n : Int) := by omega
    clear ha
    go_enter Tryf.func3, Tryf.ntmps3
    go_wp2_with (go_at_call 4; (with_reducible refine Z.out.mono ?_); rintro e w1 ⟨b, rfl, -, rfl⟩; cases b)
    all_goals (go_ret; exact ⟨rfl, Below.refl _ _⟩)
end Go.Proofs.YtfklgdecaknbaaaFmt
