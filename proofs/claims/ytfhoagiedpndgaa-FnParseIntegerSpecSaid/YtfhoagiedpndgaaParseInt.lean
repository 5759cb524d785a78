/- Proved: for every text the law FnParseIntegerSpec returns true, and its argument reads afterwards as before. No condition. -/
import Derived.Test.YtfhoagiedpndgaaRows
import Derived.WalkKit
import Derived.ProofKit
import Derived.OpenShut
import Derived.ShutString
import Derived.WalkLawsBesides
import Derived.Lib.Hide
import Derived.Deep.QuietTactic
import Derived.BigQuiet
import Derived.IntWalk
namespace Go.Proofs.Ytfhoagiedpndgaa.fnParseIntegerSpec
open Go.ChangeShapes Go.WideShapes Go.ChangeAt Go.RowKit
open Go.ChangeMaps (open_string shut_string)
set_option linter.unusedVariables false
theorem ret_bool {a b : Bool} (h : a = b) : Ending.returned (.bool a) = .returned (.bool b) := by rw [h]
def D (c : UInt8) : Prop := 48 ≤ (c.toNat : Int) ∧ (c.toNat : Int) ≤ 57
def Z (s : ByteArray) (k : Nat) : Prop := ∀ i (h : i < s.size), i < k → ((s[i].toNat : Int) = 48)
def DD (s : ByteArray) (j k : Nat) : Prop := ∀ i (h : i < s.size), j ≤ i → i < k → D s[i]
abbrev tup (s : ByteArray) (b : Bool) : Value := .tuple #[.string s, .bool b]
def PI (s : ByteArray) (w : World) (e : Ending) (w' : World) : Prop :=
  w = w' ∧ ((s.size = 0 ∧ e = .returned (tup ⟨#[]⟩ false)) ∨ (0 < s.size ∧ Z s s.size ∧ e = .returned (tup ⟨#[48]⟩ true))
   ∨ (∃ k, ∃ h : k < s.size, Z s k ∧ (s[k].toNat : Int) ≠ 48 ∧ DD s k s.size ∧ e = .returned (tup (s.extract k s.size) true))
   ∨ ((∃ i, ∃ h : i < s.size, ¬ D s[i]) ∧ e = .returned (tup ⟨#[]⟩ false)))
set_option maxHeartbeats 1000000 in
theorem parse_any (s : ByteArray) (w : World) (hs : s.size ≤ maxLen) :
    Calls Try.prog 33 #[.string s] w (PI s w) := by
  unfold maxLen at hs
  by_cases h0 : s.size = 0
  · have g : ((s.size : Int) == 0) = true := by simp [h0]
    have H0 := Lib.hid h0
    clear h0
    go_enter Try.func33, Try.ntmps33
    go_wp2
    go_ret2
    exact ⟨rfl, Or.inl ⟨H0.out, rfl⟩⟩
  · have g : ((s.size : Int) == 0) = false := by rw [beq_eq_false_iff_ne]; omega
    go_enter Try.func33, Try.ntmps33
    go_wp2
    go_loop [5] (fun i => ∃ k : Nat, k ≤ s.size ∧ i = .int .i64 k ∧ Hid (Z s k)) (fun i => s.size - (intOf i).toNat)
    case atStart => exact ⟨0, Nat.zero_le _, rfl, Lib.hid (fun i h hi => absurd hi (by omega))⟩
    case round =>
      obtain ⟨k, hk, rfl, hZ⟩ := hrel
      by_cases hlt : k < s.size
      · by_cases hc : (s[k].toNat : Int) = 48
        · have HC := Lib.hid hc
          have hc' : ((s[k].toNat : Int) == 48) = true := by simp [hc]
          clear hc
          go_wp2
          go_round
          case rel => exact ⟨k + 1, by omega, by go_num, Lib.hid (fun i h hi => by
            by_cases e : i = k
            · subst e; exact HC.out
            · exact hZ.out i h (by omega))⟩
          case measure => simp [intOf]; omega
        · have hc' : ((s[k].toNat : Int) == 48) = false := by simp [hc]
          have he : ((k : Int) == (s.size : Int)) = false := by simp; omega
          go_wp2
          go_loop [6] (fun i => ∃ j : Nat, k ≤ j ∧ j ≤ s.size ∧ i = .int .i64 j ∧ Hid (DD s k j)) (fun i => s.size - (intOf i).toNat)
          case atStart => exact ⟨k, by omega, by omega, rfl, Lib.hid (fun i h hi hj => absurd hi (by omega))⟩
          case round =>
            obtain ⟨j, hj1, hj, rfl, hD⟩ := hrel
            by_cases hlt2 : j < s.size
            · by_cases hd : 48 ≤ (s[j].toNat : Int) ∧ (s[j].toNat : Int) ≤ 57
              · obtain ⟨d1, d2⟩ := hd
                go_wp2
                go_round
                case rel => exact ⟨j + 1, by omega, by omega, by go_num, Lib.hid (fun i h hi hj => by
                  by_cases e : i = j
                  · subst e; exact ⟨d1, d2⟩
                  · exact hD.out i h hi (by omega))⟩
                case measure => simp [intOf]; omega
              · go_wp2
                all_goals
                  go_ret2
                  exact ⟨rfl, Or.inr (Or.inr (Or.inr ⟨⟨j, hlt2, hd⟩, rfl⟩))⟩
            · obtain rfl : j = s.size := by omega
              go_wp2
              go_ret2
              exact ⟨rfl, Or.inr (Or.inr (Or.inl ⟨k, hlt, hZ.out, hc, hD.out, rfl⟩))⟩
      · obtain rfl : k = s.size := by omega
        have he : ((s.size : Int) == (s.size : Int)) = true := by simp
        go_wp2
        go_ret2
        exact ⟨rfl, Or.inr (Or.inl ⟨by omega, hZ.out, rfl⟩)⟩

/-- the answer, in one form: a canonical numeral behind k zeros, or a refusal -/
def Good (s out : ByteArray) (k : Nat) : Prop :=
  out.size + k = s.size ∧ 0 < out.size ∧ Z s k ∧ DD s 0 s.size ∧ (∀ i (h : i < out.size) (h2 : k + i < s.size), out[i] = s[k + i]) ∧ (∀ h : 0 < out.size, (out[0].toNat : Int) = 48 → out.size = 1)
def Bad (s : ByteArray) : Prop := s.size = 0 ∨ ∃ i, ∃ h : i < s.size, ¬ D s[i]
def PA (s : ByteArray) (w : World) (e : Ending) (w' : World) : Prop :=
  w = w' ∧ ((∃ out k, Good s out k ∧ e = .returned (tup out true)) ∨ (Bad s ∧ e = .returned (tup ⟨#[]⟩ false)))
theorem pa_of_pi {s : ByteArray} {w : World} {e : Ending} {w' : World} (h : PI s w e w') : PA s w e w' := by
  obtain ⟨hw, h | h | h | h⟩ := h
  · exact ⟨hw, Or.inr ⟨Or.inl h.1, h.2⟩⟩
  · obtain ⟨h0, hz, he⟩ := h
    refine ⟨hw, Or.inl ⟨⟨#[48]⟩, s.size - 1, ⟨?_, by decide, ?_, ?_, ?_, fun _ _ => rfl⟩, he⟩⟩
    · show 1 + _ = _; omega
    · intro i h hi; exact hz i h h
    · intro i h _ _; have := hz i h h; exact ⟨by omega, by omega⟩
    · intro i h h2
      have h1 : i < 1 := h
      obtain rfl : i = 0 := by omega
      have := hz (s.size - 1 + 0) h2 h2
      apply UInt8.toNat_inj.1
      show 48 = _
      omega
  · obtain ⟨k, hk, hz, hn, hd, he⟩ := h
    have hsz : (s.extract k s.size).size = s.size - k := by simp
    refine ⟨hw, Or.inl ⟨s.extract k s.size, k, ⟨by omega, by omega, hz, ?_, ?_, ?_⟩, he⟩⟩
    · intro i h _ h2
      by_cases c : k ≤ i
      · exact hd i h c h2
      · have := hz i h (by omega); exact ⟨by omega, by omega⟩
    · intro i h h2; simp [ByteArray.getElem_extract]
    · intro h e
      have : (s.extract k s.size)[0] = s[k + 0] := by simp [ByteArray.getElem_extract]
      rw [this] at e
      exact absurd e hn
  · exact ⟨hw, Or.inr ⟨Or.inr h.1, h.2⟩⟩
theorem zz_any (s : ByteArray) (w : World) (hs : s.size ≤ maxLen) : Calls Try.prog 22 #[.string s] w (PA s w) := by
  go_enter Try.func22, Try.ntmps22
  go_wp2_with (go_at_call 33; refine (parse_any _ _ hs).mono ?_; intro e w' hp; replace hp := pa_of_pi hp; obtain ⟨rfl, ⟨out, k, hg, rfl⟩ | ⟨hb, rfl⟩⟩ := hp)
  · go_ret2
    exact ⟨rfl, Or.inl ⟨out, k, hg, rfl⟩⟩
  · go_ret2
    exact ⟨rfl, Or.inr ⟨hb, rfl⟩⟩
def isD (c : Int) : Bool := decide (48 ≤ c) && decide (c ≤ 57)
theorem dig_any (c : Int) (w : World) : Calls Try.prog 23 #[.int .u8 c] w fun e w' => e = .returned (.bool (isD c)) ∧ w = w' := by
  go_enter Try.func23, Try.ntmps23
  go_wp2
  all_goals
    go_ret
    exact ⟨ret_bool (by unfold isD; simp; try omega), rfl⟩
theorem isD_true {c : UInt8} (h : D c) : isD (c.toNat : Int) = true := by unfold isD; simp only [Bool.and_eq_true, decide_eq_true_eq]; exact h
theorem isD_false {c : UInt8} (h : ¬ D c) : isD (c.toNat : Int) = false := by
  unfold isD; simp only [Bool.and_eq_false_iff, decide_eq_false_iff_not]; unfold D at h; omega
theorem grownN {w : World} (n : Nat) : Grown w (w.drewN n) := Grown.refl w
theorem out_dig {s out : ByteArray} {m : Nat} (h : Good s out m) (k : Nat) (hk : k < out.size) : D out[k] := by
  obtain ⟨h1, h2, h3, h4, h5, h6⟩ := h
  have := h5 k hk (by omega)
  rw [this]
  exact h4 _ _ (by omega) (by omega)
set_option maxHeartbeats 4000000 in
theorem walk (a0 : ByteArray) (w0 : a0.size ≤ maxLen) (w : World) :
    Calls Try.prog 8 #[.string a0] w fun e w' => e = .returned (.bool true) ∧ Grown w w' := by
  obtain ⟨s, rfl⟩ : ∃ s, s = a0 := ⟨_, rfl⟩
  have HS := Lib.hid w0
  have hs := w0
  clear w0
  unfold maxLen at hs
  by_cases hl : s.size ≤ 1048576
  · by_cases h0 : 0 < s.size
    · go_enter Try.func8, Try.ntmps8
      go_wp2_with (first | (go_at_call 22; refine (zz_any s _ HS.out).mono ?_; intro e w' hp; obtain ⟨rfl, ⟨out, m, hG0, rfl⟩ | ⟨hB0, rfl⟩⟩ := hp) | go_in)
      · have hG := Lib.hid hG0
        clear hG0
        have g1 : m ≤ s.size := by have := hG.out.1; omega
        have g2 : 0 < out.size := hG.out.2.1
        have g3 : out.size ≤ s.size := by have := hG.out.1; omega
        have g4 : ((out.size : Int) == 0) = false := by rw [beq_eq_false_iff_ne]; omega
        have g7 := hG.out.1
        have g5 : (s.size : Int) - (out.size : Int) = (m : Int) := by omega
        clear g7
        have g6 := h0
        go_loop [5, 6] (fun v i => ∃ k : Nat, k ≤ s.size ∧ i = .int .i64 k ∧ v = .bool true) (fun _ i => s.size - (intOf i).toNat)
        case atStart => exact ⟨0, by omega, rfl, rfl⟩
        case round =>
          obtain ⟨k, hk, rfl, rfl⟩ := hrel
          by_cases hlt : k < s.size
          · have hd' := isD_true (hG.out.2.2.2.1 k hlt (by omega) hlt)
            go_wp2_with (go_at_call 23; refine (dig_any _ _).mono ?_; rintro e w' ⟨rfl, rfl⟩)
            go_round
            case rel => exact ⟨k + 1, by omega, by go_num, rfl⟩
            case measure => simp [intOf]; omega
          · obtain rfl : k = s.size := by omega
            clear hlt hk
            go_wp2
            go_loop [7] (fun i => ∃ k : Nat, k ≤ out.size ∧ i = .int .i64 k) (fun i => out.size - (intOf i).toNat)
            case atStart => exact ⟨0, by omega, rfl⟩
            case round =>
              obtain ⟨k, hk, rfl⟩ := hrel
              by_cases hlt : k < out.size
              · have hd' := isD_true (out_dig hG.out k hlt)
                go_wp2_with (go_at_call 23; refine (dig_any _ _).mono ?_; rintro e w' ⟨rfl, rfl⟩)
                go_round
                case rel => exact ⟨k + 1, by omega, by go_num⟩
                case measure => simp [intOf]; omega
              · obtain rfl : k = out.size := by omega
                clear hlt hk
                have key : (out[0].toNat : Int) = 48 → out.size = 1 := hG.out.2.2.2.2.2 g2
                have k1 : ((out[0].toNat : Int) == 48 && ((out.size : Int) != 1)) = false := by
                  by_cases h48 : (out[0].toNat : Int) = 48
                  · simp [h48, key h48]
                  · simp [h48]
                by_cases h48 : ((out[0].toNat : Int) == 48) = true
                · rw [h48] at k1
                  have k2 : ((out.size : Int) != 1) = false := by simpa using k1
                  clear key k1
                  go_wp2
                  go_loop [9] (fun i => ∃ k : Nat, k ≤ m ∧ i = .int .i64 k) (fun i => m - (intOf i).toNat)
                  case atStart => exact ⟨0, by omega, rfl⟩
                  case round =>
                    obtain ⟨k, hk, rfl⟩ := hrel
                    by_cases hlt : k < m
                    · have hks : k < s.size := by omega
                      have hz : ((s[k].toNat : Int) != 48) = false := by
                        have := hG.out.2.2.1 k hks hlt
                        simp [this]
                      go_wp2
                      go_round
                      case rel => exact ⟨k + 1, by omega, by go_num⟩
                      case measure => simp [intOf]; omega
                    · obtain rfl : k = m := by omega
                      clear hlt hk
                      go_wp2
                      go_loopw [10] (fun i wr => ∃ j q : Nat, j ≤ out.size ∧ i = .int .i64 j ∧ wr = w.drewN q) (fun i _ => out.size - (intOf i).toNat)
                      case atStart => exact ⟨0, 0, by omega, rfl, rfl⟩
                      case round =>
                        obtain ⟨j, q, hj, rfl, rfl⟩ := hrel
                        by_cases hlt : j < out.size
                        · have hks : k + j < s.size := by omega
                          have hz : (((s[k + j].toNat : Int)) != (out[j].toNat : Int)) = false := by
                            have := hG.out.2.2.2.2.1 j hlt hks
                            simp [this]
                          have q1 : IntKind.i64.wrap ((k : Int) + (j : Int)) = (k : Int) + (j : Int) := IntWalk.i64_in _ (by omega)
                          have q2 : (0 : Int) ≤ (k : Int) + (j : Int) := by omega
                          have q3 : ((k : Int) + (j : Int)).toNat = k + j := by omega
                          have q4 : (k : Int) + (j : Int) < (s.size : Int) := by omega
                          go_wp2
                          go_quiet (fail)
                          go_wp2
                          go_roundw
                          case rel => exact ⟨j + 1, _, by omega, by go_num, rfl⟩
                          case measure => simp [intOf]; omega
                        · go_wp2
                          go_ret
                          exact ⟨rfl, grownN q⟩
                · have k2 : ((out[0].toNat : Int) == 48) = false := by simpa using h48
                  clear key k1 h48
                  go_wp2
                  go_loop [9] (fun i => ∃ k : Nat, k ≤ m ∧ i = .int .i64 k) (fun i => m - (intOf i).toNat)
                  case atStart => exact ⟨0, by omega, rfl⟩
                  case round =>
                    obtain ⟨k, hk, rfl⟩ := hrel
                    by_cases hlt : k < m
                    · have hks : k < s.size := by omega
                      have hz : ((s[k].toNat : Int) != 48) = false := by
                        have := hG.out.2.2.1 k hks hlt
                        simp [this]
                      go_wp2
                      go_round
                      case rel => exact ⟨k + 1, by omega, by go_num⟩
                      case measure => simp [intOf]; omega
                    · obtain rfl : k = m := by omega
                      clear hlt hk
                      go_wp2
                      go_loopw [10] (fun i wr => ∃ j q : Nat, j ≤ out.size ∧ i = .int .i64 j ∧ wr = w.drewN q) (fun i _ => out.size - (intOf i).toNat)
                      case atStart => exact ⟨0, 0, by omega, rfl, rfl⟩
                      case round =>
                        obtain ⟨j, q, hj, rfl, rfl⟩ := hrel
                        by_cases hlt : j < out.size
                        · have hks : k + j < s.size := by omega
                          have hz : (((s[k + j].toNat : Int)) != (out[j].toNat : Int)) = false := by
                            have := hG.out.2.2.2.2.1 j hlt hks
                            simp [this]
                          have q1 : IntKind.i64.wrap ((k : Int) + (j : Int)) = (k : Int) + (j : Int) := IntWalk.i64_in _ (by omega)
                          have q2 : (0 : Int) ≤ (k : Int) + (j : Int) := by omega
                          have q3 : ((k : Int) + (j : Int)).toNat = k + j := by omega
                          have q4 : (k : Int) + (j : Int) < (s.size : Int) := by omega
                          go_wp2
                          go_quiet (fail)
                          go_wp2
                          go_roundw
                          case rel => exact ⟨j + 1, _, by omega, by go_num, rfl⟩
                          case measure => simp [intOf]; omega
                        · go_wp2
                          go_ret
                          exact ⟨rfl, grownN q⟩
      · have hB := Lib.hid hB0
        clear hB0
        go_loop [5, 6] (fun v i => ∃ k : Nat, ∃ b : Bool, k ≤ s.size ∧ i = .int .i64 k ∧ v = .bool b ∧ Hid (b = true → DD s 0 k)) (fun _ i => s.size - (intOf i).toNat)
        case atStart => exact ⟨0, true, by omega, rfl, rfl, Lib.hid (fun _ i h h2 h3 => absurd h3 (by omega))⟩
        case round =>
          obtain ⟨k, b, hk, rfl, rfl, hD⟩ := hrel
          by_cases hlt : k < s.size
          · by_cases hd : D s[k]
            · have hd' := isD_true hd
              go_wp2_with (go_at_call 23; refine (dig_any _ _).mono ?_; rintro e w' ⟨rfl, rfl⟩)
              go_round
              case rel => exact ⟨k + 1, b, by omega, by go_num, rfl, Lib.hid (fun hb i h hi hj => by
                    by_cases e : i = k
                    · subst e; exact hd
                    · exact hD.out hb i h hi (by omega))⟩
              case measure => simp [intOf]; omega
            · have hd' := isD_false hd
              go_wp2_with (go_at_call 23; refine (dig_any _ _).mono ?_; rintro e w' ⟨rfl, rfl⟩)
              go_round
              case rel => exact ⟨k + 1, false, by omega, by go_num, rfl, Lib.hid (fun hb => by cases hb)⟩
              case measure => simp [intOf]; omega
          · obtain rfl : k = s.size := by omega
            cases b
            · go_wp2
              go_ret
              exact ⟨rfl, Grown.refl _⟩
            · exfalso
              have := hD.out rfl
              rcases hB.out with h | ⟨i, h, hn⟩
              · omega
              · exact hn (this i h (by omega) h)
    · go_enter Try.func8, Try.ntmps8
      go_wp2_with (first | (go_at_call 22; refine (zz_any s _ HS.out).mono ?_; intro e w' hp; obtain ⟨rfl, ⟨out, m, hG0, rfl⟩ | ⟨hB0, rfl⟩⟩ := hp) | go_in)
      · exfalso
        have g7 := hG0.1
        have g8 := hG0.2.1
        omega
      · clear hB0
        go_loop [5, 6] (fun v i => ∃ k : Nat, i = .int .i64 k ∧ v = .bool false) (fun _ i => s.size - (intOf i).toNat)
        case atStart => exact ⟨0, rfl, rfl⟩
        case round =>
          obtain ⟨k, rfl, rfl⟩ := hrel
          have hlt : ¬ k < s.size := by omega
          go_wp2
          go_ret
          exact ⟨rfl, Grown.refl _⟩
  · go_enter Try.func8, Try.ntmps8
    go_wp2
    all_goals
      go_ret
      exact ⟨rfl, Grown.refl _⟩

theorem own : ownKnob Try.prog.godebug = none := by kernel_rfl
/-! ### THE ROW's STEP: WRITTEN OUT: LEAVE IT -/
set_option maxRecDepth 100000 in
theorem lifted (os : Os) (started : os.Started) (H : Type) (enc : TypeId × Value → H) :
    ReturnsInHanded {} Try.checked os 8 .any (Rows.fnParseIntegerSpecSpec.pre6 enc Try.prog Try.f8 Rows.fnParseIntegerSpecRow.domain false) (Rows.fnParseIntegerSpecSpec.post enc Try.prog Try.f8 false true false false) := by
  refine returnsInHanded_of_change (C := Try.checked) own started (by kernel_rfl) Try.func8
    (ChangeSpec.witness6 (enc := enc) (C := Try.checked) false ⟨#[], #[.string ByteArray.empty], []⟩ 8 (by kernel_rfl) (by kernel_rfl) (by kernel_rfl) (by kernel_rfl)) ?_
  intro W base args ds gs before hval0 hW hcnd _
  have hval : ∀ (j : Nat) t v, Try.f8.params[j]? = some t → args[j]? = some v → Value.okWide Try.prog W .any base t v := hval0
  have hW' := hW
  obtain ⟨p, q, hA0, hV, rfl, hfz, hnd⟩ := hW
  have hA : DataW.TrodAll enc Try.prog W 0 (fun _ => true) true Try.f8.params.toList args.toList ds p := hA0
  rw [Try.params8] at hA hval
  obtain ⟨v0, vs0, d0, ds0, p0, q0, hargs, rfl, rfl, h0, r0⟩ := trodAll_cons hA
  obtain ⟨rfl, rfl, rfl⟩ := trodAll_nil r0
  obtain rfl : args = #[v0] := by cases args; simp_all
  obtain ⟨rfl, rfl⟩ := trodVars_none hV
  obtain ⟨a0, rfl, rfl, rfl, w0⟩ := open_string Try.underlying9 (hval 0 9 v0 rfl rfl) h0
  clear hA0 hval0
  simp only [List.append_nil] at hW'
  refine (walk a0 w0 W).mono fun e W' ⟨he, hg⟩ => ?_
  subst he
  exact ⟨_, rfl, post_of_same (pa := []) (pv := []) hW' (fun _ _ _ => (trodAll_cons_mk (shut_bool Try.underlying4 _) trodAll_mk0)) (fun sp _ => (trodAll_cons_mk (shut_string Try.underlying9 w0) trodAll_mk0)) (fun _ _ => rfl) rfl
    (hg.frame _) hg.2.1 (ok_one (by kernel_rfl) rfl (okWide_bool_mk Try.underlying4 _))⟩

theorem over : Rows.fnParseIntegerSpecRow.holds Try.pinned (OpenSpec.ofChange Rows.fnParseIntegerSpecSpec) :=
  OpenClaim.holds_of_wide 8 Try.f8 rfl rfl rfl rfl rfl rfl rfl ⟨rfl, rfl, rfl, rfl, rfl⟩ rfl rfl rfl rfl rfl (by kernel_rfl) Try.func8 (by kernel_rfl)
    (of_decide_eq_true (by kernel_rfl)) (by unfold Func.isWrapper; first | (rw [if_pos (by decide +kernel)]; kernel_rfl) | (rw [if_neg (by decide +kernel)]; exact ⟨rfl, rfl⟩))
    (fun os started H enc _ => lifted os started H enc)

/-- ████ THE STATEMENT ████ -/
theorem proved : Rows.FnParseIntegerSpecSaid :=
  over
#print axioms proved
end Go.Proofs.Ytfhoagiedpndgaa.fnParseIntegerSpec
