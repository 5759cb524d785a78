/- FnPeekAcceptsExactlyOneKind returns true at every argument (no condition). -/
import Derived.Test.YtephkamknkambaaCu2
import Derived.Deep.DeepCutAuto
import Derived.WalkSpells
namespace Go.Proofs.Ytephkamknkambaa.fnPeekAcceptsExactlyOneKind
open Go.ChangeShapes Go.WideShapes Go.ChangeAt Go.RowKit
open Go.ChangeMaps (open_string shut_string)
set_option linter.unusedVariables false
set_option linter.unusedSimpArgs false
theorem own : ownKnob Try.prog.godebug = none := by kernel_rfl
theorem laidOut : laidOutB Try.prog = true := by kernel_rfl

/-- WHAT THE WALK IS TOLD OF A SLICE OF INTEGERS THAT CAME IN: it is nil; or it leads to a row of 'cap' cells, the numbers 'zs' (the first 'len' are its elements, the rest its spare room), each fitting its kind. -/
def IsRow (k : IntKind) (w : World) (a : Option Addr) (len cap : Nat) (zs : List Int) : Prop :=
  (a = none ∧ len = 0 ∧ cap = 0 ∧ zs = []) ∨
  ∃ x, a = some x ∧ len ≤ cap ∧ cap ≤ maxLen ∧ zs.length = cap ∧ (∀ i, i < zs.length → w.cell? (x.add i) = some (.int k (zs.getD i 0))) ∧ ∀ n ∈ zs, (Lit.int k n).wf = true

theorem row_of {k : IntKind} {w : World} {a : Option Addr} {len cap : Nat} {zs : List Int} (h : IsRow k w a len cap zs) : Row k w a len (fun i => zs.getD i 0) ∧ len ≤ maxLen := by
  rcases h with ⟨rfl, rfl, rfl, rfl⟩ | ⟨x, rfl, h1, h2, h3, h4, h5⟩
  · exact ⟨fun i hi => by omega, by unfold maxLen; omega⟩
  · exact ⟨fun i hi => ⟨x, rfl, h4 i (by omega)⟩, by omega⟩
theorem row_nil {k : IntKind} {w : World} {len cap : Nat} {zs : List Int} (h : IsRow k w none len cap zs) : len = 0 ∧ cap = 0 := by
  rcases h with ⟨_, rfl, rfl, rfl⟩ | ⟨x, h, _⟩
  · exact ⟨rfl, rfl⟩
  · cases h
theorem row_wf {k : IntKind} {w : World} {a : Option Addr} {len cap : Nat} {zs : List Int} (h : IsRow k w a len cap zs) : ∀ i, i < len → (Lit.int k (zs.getD i 0)).wf = true := by
  rcases h with ⟨rfl, rfl, rfl, rfl⟩ | ⟨x, rfl, h1, h2, h3, h4, h5⟩
  · intro i hi; omega
  · intro i hi
    refine h5 _ ?_
    have : i < zs.length := by omega
    simp [List.getD, this]
theorem wf_u8 {n : Int} (h : (Lit.int .u8 n).wf = true) : 0 ≤ n ∧ n ≤ 255 := by
  have e1 : IntKind.u8.min = 0 := by decide
  have e2 : IntKind.u8.max = 255 := by decide
  simp [Lit.wf] at h; omega
theorem wf_i32 {n : Int} (h : (Lit.int .i32 n).wf = true) : -2147483648 ≤ n ∧ n ≤ 2147483647 := by
  have e1 : IntKind.i32.min = -2147483648 := by decide
  have e2 : IntKind.i32.max = 2147483647 := by decide
  simp [Lit.wf] at h; omega
def SomeBool (w : World) (e : Ending) (w' : World) : Prop := ∃ b : Bool, e = .returned (.bool b) ∧ w = w'
set_option maxRecDepth 100000 in
set_option maxHeartbeats 1000000 in
theorem bytes_c (a0 : ByteArray) (a1 a2 a3 : Option Addr) (n1 c1 n2 c2 n3 c3 : Nat) (a4 : Int) (w : World) (h0 : a0.size ≤ maxLen) (h1 : n1 ≤ maxLen) (h2 : n2 ≤ maxLen) (h3 : n3 ≤ maxLen) :
    Calls Try.prog 6 #[.string a0, .slice a1 n1 c1, .slice a2 n2 c2, .slice a3 n3 c3, .int .i64 a4] w (SomeBool w) := by
  unfold maxLen at h0 h1 h2 h3
  go_enter Try.func6, Try.ntmps6
  go_wp2
  all_goals (go_ret; exact ⟨_, rfl, rfl⟩)
def SizeOK (a b c d : Nat) (w : World) (e : Ending) (w' : World) : Prop := ∃ v : Bool, e = .returned (.bool v) ∧ (v = true → a + b + 4 * c + 4 * d ≤ 1048576) ∧ w = w'
set_option maxRecDepth 100000 in
set_option maxHeartbeats 1000000 in
theorem size_c (a0 : ByteArray) (a1 a2 a3 : Option Addr) (n1 c1 n2 c2 n3 c3 : Nat) (w : World) (h0 : a0.size ≤ maxLen) (h1 : n1 ≤ maxLen) (h2 : n2 ≤ maxLen) (h3 : n3 ≤ maxLen) :
    Calls Try.prog 7 #[.string a0, .slice a1 n1 c1, .slice a2 n2 c2, .slice a3 n3 c3] w (SizeOK a0.size n1 n2 n3 w) := by
  unfold maxLen at h0 h1 h2 h3
  go_enter Try.func7, Try.ntmps7
  go_wp2
  all_goals (go_ret; refine ⟨_, rfl, ?_, rfl⟩; simp <;> omega)
def ShapeOK (b c d : Nat) (w : World) (e : Ending) (w' : World) : Prop := ∃ v : Bool, e = .returned (.bool v) ∧ (v = true → b = c ∧ b = d) ∧ Below w.heap.size w w'
set_option maxRecDepth 100000 in
set_option maxHeartbeats 2000000 in
theorem shape_c (a0 : ByteArray) (a1 a2 a3 : Option Addr) (n1 c1 n2 c2 n3 c3 : Nat) (S L : Nat → Int) (w : World) (h0 : a0.size ≤ 1048576) (h1 : n1 ≤ 1048576) (h2 : n2 ≤ 1048576) (h3 : n3 ≤ 1048576) (r2 : Row .i32 w a2 n2 S) (r3 : Row .i32 w a3 n3 L)
    (b2 : ∀ i, i < n2 → -2147483648 ≤ S i ∧ S i ≤ 2147483647) (b3 : ∀ i, i < n3 → -2147483648 ≤ L i ∧ L i ≤ 2147483647) :
    Calls Try.prog 8 #[.string a0, .slice a1 n1 c1, .slice a2 n2 c2, .slice a3 n3 c3] w (ShapeOK n1 n2 n3 w) := by
  by_cases he : n1 = n2 ∧ n1 = n3
  · obtain ⟨rfl, rfl⟩ := he
    have R2 := Lib.hid r2; have R3 := Lib.hid r3; have B2 := Lib.hid b2; have B3 := Lib.hid b3
    clear r2 r3 b2 b3
    go_enter Try.func8, Try.ntmps8
    go_wp2
    go_loopw [9] (fun i wr => ∃ k : Nat, k ≤ n1 ∧ i = .int .i64 k ∧ Below w.heap.size w wr) (fun i _ => n1 - (intOf i).toNat)
    case atStart => exact ⟨0, by omega, rfl, Below.refl _ _⟩
    case round =>
      obtain ⟨k, hk, rfl, hB⟩ := hrel
      by_cases hlt : k < n1
      · obtain ⟨x2, rfl, q2⟩ := (R2.out.after hB) k hlt
        obtain ⟨x3, rfl, q3⟩ := (R3.out.after hB) k hlt
        obtain ⟨s1, s2⟩ := B2.out k hlt
        obtain ⟨l1, l2⟩ := B3.out k hlt
        have i0 : (0 : Int) ≤ (k : Int) := by omega
        have i1 : (k : Int) < (n1 : Int) := by omega
        by_cases n2 : S k < 0
        · go_wp2
          go_ret
          exact ⟨_, rfl, fun _ => ⟨rfl, rfl⟩, hB⟩
        · by_cases n3 : L k < 0
          · go_wp2
            go_ret
            exact ⟨_, rfl, fun _ => ⟨rfl, rfl⟩, hB⟩
          · go_wp2
            go_quiet (fail)
            go_wp2
            · go_ret
              exact ⟨_, rfl, fun _ => ⟨rfl, rfl⟩, bdN hB _⟩
            · exact ⟨⟨k + 1, by omega, by go_num, bdN hB _⟩, by simp [intOf]; omega⟩
      · go_wp2
        go_ret
        exact ⟨_, rfl, fun _ => ⟨rfl, rfl⟩, hB⟩
  · have HE := Lib.hid he
    clear he r2 r3 b2 b3
    by_cases e1 : n1 = n2
    · subst e1
      have e2 : ¬ n1 = n3 := fun e => HE.out ⟨rfl, e⟩
      go_enter Try.func8, Try.ntmps8
      go_wp2
      go_ret
      exact ⟨_, rfl, (fun h => by cases h), Below.refl _ _⟩
    · go_enter Try.func8, Try.ntmps8
      go_wp2
      go_ret
      exact ⟨_, rfl, (fun h => by cases h), Below.refl _ _⟩
set_option maxRecDepth 100000 in
theorem tok21_c (k s l : Int) (w : World) : Calls Try.prog 21 #[.int .u8 k, .int .i32 s, .int .i32 l] w fun e w' => e = .returned (tok s l 0 k 0) ∧ Below w.heap.size w w' := by
  go_enter Try.func21, Try.ntmps21
  go_wp2
  exact bodyPost_ret (v := tok s l 0 k 0) (by simp [results, Try.results21, go_sem]) rfl ⟨rfl, (Below.refl _ _).alloc (Nat.le_refl _) _⟩
def Made (w : World) (n : Nat) (K S L : Nat → Int) (e : Ending) (w' : World) : Prop := ∃ T, e = .returned (.slice (some ⟨T, 0, none⟩) n n) ∧ TK w' T n K S L ∧ T < w'.heap.size ∧ Below w.heap.size w w'
set_option maxRecDepth 100000 in
set_option maxHeartbeats 2000000 in
theorem tokens_c (A1 A2 A3 : Option Addr) (n c1 c2 c3 : Nat) (K S L : Nat → Int) (w : World) (hn : n ≤ 1048576) (r1 : Row .u8 w A1 n K) (r2 : Row .i32 w A2 n S) (r3 : Row .i32 w A3 n L) :
    Calls Try.prog 9 #[.slice A1 n c1, .slice A2 n c2, .slice A3 n c3] w (Made w n K S L) := by
  obtain ⟨z, hmk⟩ := make47 n hn
  have R1 := Lib.hid r1; have R2 := Lib.hid r2; have R3 := Lib.hid r3
  clear r1 r2 r3
  go_enter Try.func9, Try.ntmps9
  go_wp2
  have H0 : Fill w n K S L 0 (w.alloc (.cells (madeCells z (n * 5)) 47)) := ⟨(Below.refl _ _).alloc (Nat.le_refl _) _, by simp, fun i hi => by omega, Room.made _ _ _ _⟩
  clear hmk
  go_loopw [8] (fun i wr => ∃ k : Nat, k ≤ n ∧ i = .int .i64 k ∧ Fill w n K S L k wr) (fun i _ => n - (intOf i).toNat)
  case atStart => exact ⟨0, by omega, rfl, H0⟩
  case round =>
    obtain ⟨k, hk, rfl, HF⟩ := hrel
    clear H0
    by_cases hlt : k < n
    · obtain ⟨hB, hsz, htk, hroom⟩ := HF
      obtain ⟨x1, rfl, q1⟩ := (R1.out.after hB) k hlt
      obtain ⟨x2, rfl, q2⟩ := (R2.out.after hB) k hlt
      obtain ⟨x3, rfl, q3⟩ := (R3.out.after hB) k hlt
      have g1 := fun d os => cell_regrown q1 d os
      have g2 := fun d os => cell_regrown q2 d os
      have g3 := fun d os => cell_regrown q3 d os
      have i0 : (0 : Int) ≤ (k : Int) := by omega
      have i1 : (k : Int) < (n : Int) := by omega
      go_wp2
      refine drawn_tail 16 (by kernel_rfl) (by kernel_rfl) (by kernel_rfl) (fun Q hQ => ?_)
      simp only [List.take_succ_cons, List.take_zero, List.drop_succ_cons, List.drop_zero]
      repeat (quiet_step (exact Calls.regrown_of (tok21_c _ _ _ _)))
      refine wpQuiet_nil ?_
      clear g1 g2 g3 q1 q2 q3
      intro W2 hw
      have hW : Below wr.heap.size wr W2 := by
        obtain ⟨⟨d, os⟩, rfl⟩ := hw
        exact below_regrown wr d os
      clear hw
      replace htk := htk.after hW
      replace hroom := hroom.after hW
      replace hB := hB.trans (hW.mono hB.size)
      replace hsz := Nat.lt_of_lt_of_le hsz hW.size
      clear hW
      obtain ⟨v0, c0, f0⟩ := hroom (k * 5) (by omega)
      obtain ⟨v1, c1, f1⟩ := hroom (k * 5 + 1) (by omega)
      obtain ⟨v2, c2, f2⟩ := hroom (k * 5 + 2) (by omega)
      obtain ⟨v3, c3, f3⟩ := hroom (k * 5 + 3) (by omega)
      obtain ⟨v4, c4, f4⟩ := hroom (k * 5 + 4) (by omega)
      have HT := Lib.hid (htk.step hroom (by omega))
      have HR := Lib.hid (((((hroom.set (k * 5) (.int .i32 (S k))).set (k * 5 + 1) (.int .i32 (L k))).set (k * 5 + 2) (.int .u16 0)).set (k * 5 + 3) (.int .u8 (K k))).set (k * 5 + 4) (.int .u8 0))
      clear htk hroom
      go_wp2
      refine ⟨⟨k + 1, by omega, by go_num, ⟨?_, ?_, HT.out, HR.out⟩⟩, by simp [intOf]; omega⟩
      · repeat (first | exact hB | refine Below.setCell ?_ (by simp) _)
      · simpa [World.setCell] using hsz
    · obtain rfl : k = n := by omega
      go_wp2
      obtain ⟨hB, hsz, htk, hroom⟩ := HF
      go_ret
      exact ⟨w.heap.size, rfl, htk, hsz, hB⟩
def MadeP (w : World) (T n : Nat) (idx : Int) (ct : ByteArray) (K S L : Nat → Int) (e : Ending) (w' : World) : Prop := ∃ b, e = .returned (.pointer (some ⟨b, 0, none⟩)) ∧ PS w' b T n idx ct K S L ∧ Below w.heap.size w w'
set_option maxRecDepth 100000 in
set_option maxHeartbeats 2000000 in
theorem new10_c (ct : ByteArray) (T n : Nat) (idx : Int) (K S L : Nat → Int) (w : World) (h : TK w T n K S L) (hT : T < w.heap.size) :
    Calls Try.prog 10 #[.string ct, .slice (some ⟨T, 0, none⟩) n n, .int .i64 idx] w (MadeP w T n idx ct K S L) := by
  have H := Lib.hid h
  clear h
  go_enter Try.func10, Try.ntmps10
  go_wp2
  go_ret
  exact ⟨w.heap.size, rfl, ⟨by simp [go_sem], by simp [go_sem], by simp [go_sem], by simp [go_sem], by omega, H.out.after ((Below.refl _ _).alloc (Nat.le_refl _) _)⟩, (Below.refl _ _).alloc (Nat.le_refl _) _⟩
/-- how many of the kinds below k are c; and which was the last -/
def cnt (c : Int) (k : Nat) : Int := if c < k then 1 else 0
def lst (c : Int) (k : Nat) : Int := if c < k then c else -1
set_option maxRecDepth 100000 in
set_option maxHeartbeats 4000000 in
theorem main (a0 : ByteArray) (a1 a2 a3 : Option Addr) (n cap1 cap2 cap3 ix : Nat) (K S L : Nat → Int) (w : World) (hs : a0.size + n + 4 * n + 4 * n ≤ 1048576) (hix : ix ≤ n)
    (r1 : Row .u8 w a1 n K) (r2 : Row .i32 w a2 n S) (r3 : Row .i32 w a3 n L) (b1 : ∀ i, i < n → 0 ≤ K i ∧ K i ≤ 255) (b2 : ∀ i, i < n → -2147483648 ≤ S i ∧ S i ≤ 2147483647) (b3 : ∀ i, i < n → -2147483648 ≤ L i ∧ L i ≤ 2147483647) :
    Calls Try.prog 3 #[.string a0, .slice a1 n cap1, .slice a2 n cap2, .slice a3 n cap3, .int .i64 ix] w fun e w' => e = .returned (.bool true) ∧ Below w.heap.size w w' := by
  have C6 := Lib.hid (bytes_c a0 a1 a2 a3 n cap1 n cap2 n cap3 ix w (by unfold maxLen; omega) (by unfold maxLen; omega) (by unfold maxLen; omega) (by unfold maxLen; omega))
  have C7 := Lib.hid (size_c a0 a1 a2 a3 n cap1 n cap2 n cap3 w (by unfold maxLen; omega) (by unfold maxLen; omega) (by unfold maxLen; omega) (by unfold maxLen; omega))
  have C8 := Lib.hid (shape_c a0 a1 a2 a3 n cap1 n cap2 n cap3 S L w (by omega) (by omega) (by omega) (by omega) r2 r3 b2 b3)
  have R1 := Lib.hid r1; have R2 := Lib.hid r2; have R3 := Lib.hid r3; have B1 := Lib.hid b1
  have N1 : n ≤ 1048576 := by omega
  have N2 : a0.size ≤ 1048576 := by omega
  have N3 : ix ≤ 9223372036854775807 := by omega
  have hc : 0 ≤ atK n K ix ∧ atK n K ix ≤ 255 := by
    unfold atK
    by_cases c : ix < n
    · rw [if_pos c]; exact b1 _ c
    · rw [if_neg c]; omega
  obtain ⟨hc0, hc1⟩ := hc
  clear r1 r2 r3 b1 b2 b3
  go_enter Try.func3, Try.ntmps3
  go_upto_region 10 with (first | (go_at_call 6; (with_reducible refine C6.out.mono ?_); rintro e w' ⟨b, rfl, rfl⟩; cases b) | (go_at_call 7; (with_reducible refine C7.out.mono ?_); rintro e w' ⟨b, rfl, h7, rfl⟩; cases b) | (go_at_call 8; (with_reducible refine C8.out.mono ?_); rintro e w1 ⟨b, rfl, h8, hb⟩; replace hb := Lib.hid hb; cases b))
  any_goals (go_ret; exact ⟨rfl, Below.refl _ _⟩)
  any_goals (go_ret; exact ⟨rfl, hb.out⟩)
  have c9 := Lib.hid (tokens_c a1 a2 a3 n cap1 cap2 cap3 K S L w1 N1 (R1.out.after hb.out) (R2.out.after hb.out) (R3.out.after hb.out))
  go_wp2_with (first | (go_at_call 9; (with_reducible refine c9.out.mono ?_); rintro e w2 ⟨T, rfl, htk, hT, hb2⟩; replace hb := Lib.hid (hb.out.trans (hb2.mono hb.out.size)); clear hb2; replace htk := Lib.hid htk) | (go_at_call 10; (with_reducible refine (new10_c _ _ _ _ _ _ _ _ htk.out hT).mono ?_); rintro e w3 ⟨b, rfl, hps, hb2⟩; replace hb := Lib.hid (hb.out.trans (hb2.mono hb.out.size)); clear hb2 hT htk; replace hps := Lib.hid hps))
  go_loopw [14, 15, 16] (fun s14 s15 s16 wr => ∃ k : Nat, k ≤ 256 ∧ s16 = .int .i64 k ∧ s14 = .int .i64 (cnt (atK n K ix) k) ∧ s15 = .int .i64 (lst (atK n K ix) k) ∧ PS wr b T n ix a0 K S L ∧ Below w.heap.size w wr) (fun _ _ s16 _ => 256 - (intOf s16).toNat)
  case atStart =>
    refine ⟨0, by omega, rfl, ?_, ?_, hps.out, hb.out⟩
    · unfold cnt; rw [if_neg (by omega)]
    · unfold lst; rw [if_neg (by omega)]
  case round =>
    clear hps hb c9 C6 C7 C8
    obtain ⟨k, hk, rfl, rfl, rfl, hp, hbe⟩ := hrel
    replace hp := Lib.hid hp
    replace hbe := Lib.hid hbe
    by_cases hlt : k < 256
    · by_cases hkc : (k : Int) = atK n K ix
      · have e1 := Lib.hid (show cnt (atK n K ix) k = 0 ∧ lst (atK n K ix) k = -1 from ⟨by unfold cnt; rw [if_neg (by omega)], by unfold lst; rw [if_neg (by omega)]⟩)
        have e2 := Lib.hid (show cnt (atK n K ix) (k + 1) = 1 ∧ lst (atK n K ix) (k + 1) = k from ⟨by unfold cnt; rw [if_pos (by omega)], by unfold lst; rw [if_pos (by omega)]; omega⟩)
        have hq : ((k : Int) == atK n K ix) = true := by simpa using hkc
        have HK := Lib.hid hkc
        clear hkc
        rw [e1.out.1, e1.out.2]
        go_wp2_with (go_at_call 11; (with_reducible refine (zzpeek_c b T n ix _ a0 K S L _ hp.out N1 N2 N3).mono ?_); rintro e w4 ⟨rfl, hb⟩; replace hp := Lib.hid (hp.out.after hb); replace hbe := Lib.hid (hbe.out.trans (hb.mono hbe.out.size)); clear hb)
        go_roundw
        case rel => exact ⟨k + 1, by omega, by go_num, by rw [e2.out.1], by rw [e2.out.2], hp.out, hbe.out⟩
        case measure => simp [intOf]; omega
      · have e2 := Lib.hid (show cnt (atK n K ix) (k + 1) = cnt (atK n K ix) k ∧ lst (atK n K ix) (k + 1) = lst (atK n K ix) k by
          unfold cnt lst
          by_cases c : atK n K ix < k
          · rw [if_pos c, if_pos c, if_pos (by omega), if_pos (by omega)]; exact ⟨rfl, rfl⟩
          · rw [if_neg c, if_neg c, if_neg (by omega), if_neg (by omega)]; exact ⟨rfl, rfl⟩)
        have hq : ((k : Int) == atK n K ix) = false := by simpa using hkc
        clear hkc
        go_wp2_with (go_at_call 11; (with_reducible refine (zzpeek_c b T n ix _ a0 K S L _ hp.out N1 N2 N3).mono ?_); rintro e w4 ⟨rfl, hb⟩; replace hp := Lib.hid (hp.out.after hb); replace hbe := Lib.hid (hbe.out.trans (hb.mono hbe.out.size)); clear hb)
        go_roundw
        case rel => exact ⟨k + 1, by omega, by go_num, by rw [e2.out.1], by rw [e2.out.2], hp.out, hbe.out⟩
        case measure => simp [intOf]; omega
    · obtain rfl : k = 256 := by omega
      have e1 : cnt (atK n K ix) 256 = 1 := by unfold cnt; rw [if_pos (by omega)]
      have e2 : lst (atK n K ix) 256 = atK n K ix := by unfold lst; rw [if_pos (by omega)]
      rw [e1, e2]
      clear e1 e2
      by_cases hin : ix < n
      · obtain ⟨x1, rfl, q1⟩ := (R1.out.after hbe.out) ix hin
        have e3 : atK n K ix = K ix := if_pos hin
        rw [e3] at hc0 hc1 ⊢
        clear e3
        go_wp2_with (go_at_call 12; (with_reducible refine (index12_c _ _ _ _ _ _ _ _ _ hp.out).mono ?_); rintro e w4 ⟨rfl, rfl⟩)
        go_ret
        exact ⟨rfl, hbe.out⟩
      · have e3 : atK n K ix = 0 := if_neg hin
        rw [e3] at hc0 hc1 ⊢
        clear e3
        go_wp2_with (go_at_call 12; (with_reducible refine (index12_c _ _ _ _ _ _ _ _ _ hp.out).mono ?_); rintro e w4 ⟨rfl, rfl⟩)
        go_ret
        exact ⟨rfl, hbe.out⟩
set_option maxRecDepth 100000 in
set_option maxHeartbeats 4000000 in
theorem walk (a0 : ByteArray) (a1 : Option Addr) (len1 cap1 : Nat) (z1 : List Int) (a2 : Option Addr) (len2 cap2 : Nat) (z2 : List Int) (a3 : Option Addr) (len3 cap3 : Nat) (z3 : List Int) (a4 : Int) (w : World) (w0 : a0.size ≤ maxLen) (w1 : IsRow .u8 w a1 len1 cap1 z1) (w2 : IsRow .i32 w a2 len2 cap2 z2) (w3 : IsRow .i32 w a3 len3 cap3 z3) (w4 : (Lit.int .i64 a4).wf = true) :
    Calls Try.prog 3 #[.string a0, .slice a1 len1 cap1, .slice a2 len2 cap2, .slice a3 len3 cap3, .int .i64 a4] w fun e w' => e = .returned (.bool true) ∧ Below w.heap.size w w' := by
  obtain ⟨r1, l1⟩ := row_of w1
  obtain ⟨r2, l2⟩ := row_of w2
  obtain ⟨r3, l3⟩ := row_of w3
  have b1 : ∀ i, i < len1 → 0 ≤ z1.getD i 0 ∧ z1.getD i 0 ≤ 255 := fun i hi => wf_u8 (row_wf w1 i hi)
  have b2 : ∀ i, i < len2 → -2147483648 ≤ z2.getD i 0 ∧ z2.getD i 0 ≤ 2147483647 := fun i hi => wf_i32 (row_wf w2 i hi)
  have b3 : ∀ i, i < len3 → -2147483648 ≤ z3.getD i 0 ∧ z3.getD i 0 ≤ 2147483647 := fun i hi => wf_i32 (row_wf w3 i hi)
  by_cases hP : len2 = len1 ∧ len3 = len1 ∧ a0.size + len1 + 4 * len1 + 4 * len1 ≤ 1048576 ∧ 0 ≤ a4 ∧ a4 ≤ len1
  · obtain ⟨rfl, rfl, h1, h2, h3⟩ := hP
    obtain ⟨ix, rfl⟩ : ∃ ix : Nat, a4 = ix := ⟨a4.toNat, by omega⟩
    exact main a0 a1 a2 a3 _ cap1 cap2 cap3 ix _ _ _ w (by omega) (by omega) r1 r2 r3 b1 b2 b3
  · have C6 := Lib.hid (bytes_c a0 a1 a2 a3 len1 cap1 len2 cap2 len3 cap3 a4 w w0 l1 l2 l3)
    have C7 := Lib.hid (size_c a0 a1 a2 a3 len1 cap1 len2 cap2 len3 cap3 w w0 l1 l2 l3)
    have C8 := Lib.hid (fun h : a0.size + len1 + 4 * len2 + 4 * len3 ≤ 1048576 => shape_c a0 a1 a2 a3 len1 cap1 len2 cap2 len3 cap3 _ _ w (by omega) (by omega) (by omega) (by omega) r2 r3 b2 b3)
    have HP := Lib.hid hP
    clear hP r1 r2 r3 w1 w2 w3 b1 b2 b3
    unfold maxLen at w0 l1 l2 l3
    go_enter Try.func3, Try.ntmps3
    go_upto_region 10 with (first | (go_at_call 6; (with_reducible refine C6.out.mono ?_); rintro e w' ⟨b, rfl, rfl⟩; cases b) | (go_at_call 7; (with_reducible refine C7.out.mono ?_); rintro e w' ⟨b, rfl, h7, rfl⟩; replace h7 := Lib.hid h7; cases b) | (go_at_call 8; refine (C8.out (h7.out (by simp))).mono ?_; rintro e w1 ⟨b, rfl, h8, hb⟩; replace hb := Lib.hid hb; replace h8 := Lib.hid h8; cases b))
    any_goals (go_ret; exact ⟨rfl, Below.refl _ _⟩)
    any_goals (go_ret; exact ⟨rfl, hb.out⟩)
    exfalso
    obtain ⟨e1, e2⟩ := h8.out (by simp)
    have e3 := h7.out (by simp)
    exact HP.out ⟨by omega, by omega, by omega, by omega, by omega⟩
/-! ### THE ROW's STEP: WRITTEN OUT: LEAVE IT -/
set_option maxRecDepth 100000 in
theorem lifted (os : Os) (started : os.Started) (H : Type) (enc : TypeId × Value → H) :
    ReturnsInHanded {} Try.checked os 3 .any (Rows.fnPeekAcceptsExactlyOneKindSpec.pre6 enc Try.prog Try.f3 Rows.fnPeekAcceptsExactlyOneKindRow.domain false) (Rows.fnPeekAcceptsExactlyOneKindSpec.post enc Try.prog Try.f3 false true false false) := by
  refine returnsInHanded_of_change (C := Try.checked) own started (by kernel_rfl) Try.func3
    (ChangeSpec.witness6 (enc := enc) (C := Try.checked) false ⟨#[], #[.string ByteArray.empty, .slice none 0 0, .slice none 0 0, .slice none 0 0, .int .i64 0], []⟩ 8 (by kernel_rfl) (by kernel_rfl) (by kernel_rfl) (by kernel_rfl)) ?_
  intro W base args ds gs before hval0 hW hcnd _
  have hval : ∀ (j : Nat) t v, Try.f3.params[j]? = some t → args[j]? = some v → Value.okWide Try.prog W .any base t v := hval0
  have hW' := hW
  obtain ⟨p, q, hA0, hV, rfl, hfz, hnd⟩ := hW
  have hA : DataW.TrodAll enc Try.prog W 0 (fun _ => true) true Try.f3.params.toList args.toList ds p := hA0
  rw [Try.params3] at hA hval
  obtain ⟨v0, vs0, d0, ds0, p0, q0, hargs, rfl, rfl, h0, r0⟩ := trodAll_cons hA
  obtain ⟨v1, vs1, d1, ds1, p1, q1, rfl, rfl, rfl, h1, r1⟩ := trodAll_cons r0
  obtain ⟨v2, vs2, d2, ds2, p2, q2, rfl, rfl, rfl, h2, r2⟩ := trodAll_cons r1
  obtain ⟨v3, vs3, d3, ds3, p3, q3, rfl, rfl, rfl, h3, r3⟩ := trodAll_cons r2
  obtain ⟨v4, vs4, d4, ds4, p4, q4, rfl, rfl, rfl, h4, r4⟩ := trodAll_cons r3
  obtain ⟨rfl, rfl, rfl⟩ := trodAll_nil r4
  obtain rfl : args = #[v0, v1, v2, v3, v4] := by cases args; simp_all
  obtain ⟨rfl, rfl⟩ := trodVars_none hV
  obtain ⟨a0, rfl, rfl, rfl, w0⟩ := open_string Try.underlying9 (hval 0 9 v0 rfl rfl) h0
  obtain ⟨a1, len1, cap1, rfl⟩ := okWide_slice Try.underlying22 (hval 1 22 v1 rfl rfl)
  have k1 := h1
  have lt1 : ∀ x ∈ p1, x.block < W.heap.size := by obtain ⟨m, hm⟩ := k1; exact DataW.trod_lt m _ _ _ hm
  obtain ⟨z1, w1⟩ : ∃ zs, IsRow .u8 W a1 len1 cap1 zs := by
    obtain ⟨fuel, hf⟩ := h1
    rcases open_ints Try.underlying22 Try.underlying5 (by kernel_rfl) hf with ⟨hcs, _⟩ | ⟨x, l, c, zs, hcs, _, hl, hm, hz, _, hcell, hwz⟩
    · simp [Value.cells] at hcs
      obtain ⟨rfl, rfl, rfl⟩ := hcs
      exact ⟨[], .inl ⟨rfl, rfl, rfl, rfl⟩⟩
    · simp [Value.cells] at hcs
      obtain ⟨rfl, rfl, rfl⟩ := hcs
      exact ⟨zs, .inr ⟨_, rfl, hl, hm, by simpa using hz, hcell, hwz⟩⟩
  obtain ⟨a2, len2, cap2, rfl⟩ := okWide_slice Try.underlying23 (hval 2 23 v2 rfl rfl)
  have k2 := h2
  have lt2 : ∀ x ∈ p2, x.block < W.heap.size := by obtain ⟨m, hm⟩ := k2; exact DataW.trod_lt m _ _ _ hm
  obtain ⟨z2, w2⟩ : ∃ zs, IsRow .i32 W a2 len2 cap2 zs := by
    obtain ⟨fuel, hf⟩ := h2
    rcases open_ints Try.underlying23 Try.underlying21 (by kernel_rfl) hf with ⟨hcs, _⟩ | ⟨x, l, c, zs, hcs, _, hl, hm, hz, _, hcell, hwz⟩
    · simp [Value.cells] at hcs
      obtain ⟨rfl, rfl, rfl⟩ := hcs
      exact ⟨[], .inl ⟨rfl, rfl, rfl, rfl⟩⟩
    · simp [Value.cells] at hcs
      obtain ⟨rfl, rfl, rfl⟩ := hcs
      exact ⟨zs, .inr ⟨_, rfl, hl, hm, by simpa using hz, hcell, hwz⟩⟩
  obtain ⟨a3, len3, cap3, rfl⟩ := okWide_slice Try.underlying23 (hval 3 23 v3 rfl rfl)
  have k3 := h3
  have lt3 : ∀ x ∈ p3, x.block < W.heap.size := by obtain ⟨m, hm⟩ := k3; exact DataW.trod_lt m _ _ _ hm
  obtain ⟨z3, w3⟩ : ∃ zs, IsRow .i32 W a3 len3 cap3 zs := by
    obtain ⟨fuel, hf⟩ := h3
    rcases open_ints Try.underlying23 Try.underlying21 (by kernel_rfl) hf with ⟨hcs, _⟩ | ⟨x, l, c, zs, hcs, _, hl, hm, hz, _, hcell, hwz⟩
    · simp [Value.cells] at hcs
      obtain ⟨rfl, rfl, rfl⟩ := hcs
      exact ⟨[], .inl ⟨rfl, rfl, rfl, rfl⟩⟩
    · simp [Value.cells] at hcs
      obtain ⟨rfl, rfl, rfl⟩ := hcs
      exact ⟨zs, .inr ⟨_, rfl, hl, hm, by simpa using hz, hcell, hwz⟩⟩
  obtain ⟨a4, rfl, rfl, rfl, w4⟩ := open_int Try.underlying3 (hval 4 3 v4 rfl rfl) h4
  clear hA0 hval0
  refine (walk a0 a1 len1 cap1 z1 a2 len2 cap2 z2 a3 len3 cap3 z3 a4 W w0 w1 w2 w3 w4).mono fun e W' ⟨he, bel⟩ => ?_
  subst he
  exact ⟨_, rfl, _, _, _, [], _, [], hW', trodAll_mk1 (shut_bool Try.underlying4 _), (trodAll_cons_mk (shut_string Try.underlying9 w0) (trodAll_cons_mk (Below.trod laidOut (by kernel_rfl) (of_decide_eq_true (by kernel_rfl)) k1 bel lt1) (trodAll_cons_mk (Below.trod laidOut (by kernel_rfl) (of_decide_eq_true (by kernel_rfl)) k2 bel lt2) (trodAll_cons_mk (Below.trod laidOut (by kernel_rfl) (of_decide_eq_true (by kernel_rfl)) k3 bel lt3) (trodAll_cons_mk (shut_int Try.underlying3 w4) trodAll_mk0))))), rfl, bel.frame _, fun h => by cases h⟩

theorem over : Rows.fnPeekAcceptsExactlyOneKindRow.holds Try.pinned (OpenSpec.ofChange Rows.fnPeekAcceptsExactlyOneKindSpec) :=
  OpenClaim.holds_of_wide 3 Try.f3 rfl rfl rfl rfl rfl rfl rfl ⟨rfl, rfl, rfl, rfl, rfl⟩ rfl rfl rfl rfl rfl (by kernel_rfl) Try.func3 (by kernel_rfl)
    (of_decide_eq_true (by kernel_rfl)) (by unfold Func.isWrapper; first | (rw [if_pos (by decide +kernel)]; kernel_rfl) | (rw [if_neg (by decide +kernel)]; exact ⟨rfl, rfl⟩))
    (fun os started H enc _ => lifted os started H enc)

/-- ████ THE STATEMENT ████ -/
theorem proved : Rows.FnPeekAcceptsExactlyOneKindSaid := over
#print axioms proved
end Go.Proofs.Ytephkamknkambaa.fnPeekAcceptsExactlyOneKind
