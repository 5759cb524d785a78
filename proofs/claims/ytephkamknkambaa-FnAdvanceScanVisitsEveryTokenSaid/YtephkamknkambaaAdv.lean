/- FnAdvanceScanVisitsEveryToken returns true at every argument (no condition). -/
import Derived.Test.YtephkamknkambaaCu2
import Derived.Test.YtephkamknkambaaCpy
import Derived.Deep.DeepCutAuto
import Derived.WalkSpells
namespace Go.Proofs.Ytephkamknkambaa.fnAdvanceScanVisitsEveryToken
open Go.ChangeShapes Go.WideShapes Go.ChangeAt Go.RowKit
open Go.ChangeMaps (open_string shut_string)
set_option linter.unusedVariables false
set_option linter.unusedSimpArgs false
theorem own : ownKnob Try.prog.godebug = none := by kernel_rfl
theorem laidOut : laidOutB Try.prog = true := by kernel_rfl

/-- WHAT THE WALK IS TOLD OF A SLICE OF INTEGERS THAT CAME IN: it is nil; or it leads to a row of 'cap' cells, the numbers 'zs' (the first 'len' are its elements, the rest its spare room), each fitting its kind. -/
def IsRow (k : IntKind) (w : World) (a : Option Addr) (len cap : Nat) (zs : List Int) : Prop :=
  (a = none ∧ len = 0 ∧ cap = 0 ∧ zs = []) ∨
  ∃ x, a = some x ∧ len ≤ cap ∧ cap ≤ maxLen ∧ zs.length = cap ∧ (∀ i, i < zs.length → w.cell? (x.add i) = some (.int k (zs.getD i 0))) ∧ ∀ n ∈ zs, (Lit.int k n).wf = true

theorem row_of {k : IntKind} {w : World} {a : Option Addr} {len cap : Nat} {zs : List Int} (h : IsRow k w a len cap zs) : Row k w a len (fun i => zs.getD i 0) ∧ len ≤ maxLen := by
  rcases h with ⟨rfl, rfl, rfl, rfl⟩ | ⟨x, rfl, h1, h2, h3, h4, h5⟩
  · exact ⟨fun i hi => by omega, by unfold maxLen; omega⟩
  · exact ⟨fun i hi => ⟨x, rfl, h4 i (by omega)⟩, by omega⟩
theorem row_nil {k : IntKind} {w : World} {len cap : Nat} {zs : List Int} (h : IsRow k w none len cap zs) : len = 0 ∧ cap = 0 := by
  rcases h with ⟨_, rfl, rfl, rfl⟩ | ⟨x, h, _⟩
  · exact ⟨rfl, rfl⟩
  · cases h
def SomeBool (w : World) (e : Ending) (w' : World) : Prop := ∃ b : Bool, e = .returned (.bool b) ∧ w = w'
set_option maxRecDepth 100000 in
set_option maxHeartbeats 1000000 in
theorem bytes_c (a0 : ByteArray) (a1 a2 a3 : Option Addr) (n1 c1 n2 c2 n3 c3 : Nat) (a4 : Int) (w : World) (h0 : a0.size ≤ maxLen) (h1 : n1 ≤ maxLen) (h2 : n2 ≤ maxLen) (h3 : n3 ≤ maxLen) :
    Calls Try.prog 13 #[.string a0, .slice a1 n1 c1, .slice a2 n2 c2, .slice a3 n3 c3, .int .i64 a4] w (SomeBool w) := by
  unfold maxLen at h0 h1 h2 h3
  go_enter Try.func13, Try.ntmps13
  go_wp2
  all_goals (go_ret; exact ⟨_, rfl, rfl⟩)
set_option maxRecDepth 100000 in
theorem eof_c (w : World) : Calls Try.prog 24 #[] w fun e w' => e = .returned (.int .u8 0) ∧ w = w' := by
  go_enter Try.func24, Try.ntmps24
  go_wp2
  go_ret
  exact ⟨rfl, rfl⟩
set_option maxRecDepth 100000 in
set_option maxHeartbeats 1000000 in
theorem model_c (a0 : ByteArray) (A1 A2 A3 : Option Addr) (n c1 c2 c3 i : Nat) (K S L : Nat → Int) (w : World) (hn : n ≤ 1048576) (hs : a0.size ≤ 1048576) (hi : i ≤ 1048576 + 1048576) (r1 : Row .u8 w A1 n K) (r2 : Row .i32 w A2 n S) (r3 : Row .i32 w A3 n L) :
    Calls Try.prog 16 #[.string a0, .slice A1 n c1, .slice A2 n c2, .slice A3 n c3, .int .i64 i] w fun e w' => e = .returned (.tuple #[.int .u8 (atK n K i), .int .i32 (atS n a0 S i), .int .i32 (atL n L i)]) ∧ Below w.heap.size w w' := by
  by_cases c : i < n
  · obtain ⟨x1, rfl, q1⟩ := r1 i c
    obtain ⟨x2, rfl, q2⟩ := r2 i c
    obtain ⟨x3, rfl, q3⟩ := r3 i c
    have E := Lib.hid (show atK n K i = K i ∧ atS n a0 S i = S i ∧ atL n L i = L i from ⟨if_pos c, if_pos c, if_pos c⟩)
    clear r1 r2 r3
    go_enter Try.func16, Try.ntmps16
    go_wp2
    go_quiet (fail)
    go_wp2
    go_ret3
    exact ⟨by rw [E.out.1, E.out.2.1, E.out.2.2]; rfl, bdN (Below.refl _ _) _⟩
  · have c' : n ≤ i := by omega
    have E := Lib.hid (show atK n K i = 0 ∧ atS n a0 S i = a0.size ∧ atL n L i = 0 from ⟨if_neg c, if_neg c, if_neg c⟩)
    clear r1 r2 r3
    go_enter Try.func16, Try.ntmps16
    go_wp2_with (go_at_call 24; refine (eof_c _).mono ?_; rintro e w' ⟨rfl, rfl⟩)
    go_ret3
    exact ⟨by rw [E.out.1, E.out.2.1, E.out.2.2]; rfl, Below.refl _ _⟩
set_option maxRecDepth 100000 in
theorem adv17_c (b T n i B : Nat) (ct : ByteArray) (K S L : Nat → Int) (w : World) (h : PS w b T n i ct K S L) (hn : n ≤ 1048576) (hi : i ≤ n) (hB : B ≤ b) :
    Calls Try.prog 17 #[.pointer (some ⟨b, 0, none⟩)] w fun e w' => e = .returned (.tuple #[]) ∧ PS w' b T n ((min (i + 1) n : Nat) : Int) ct K S L ∧ Below B w w' := by
  have C := Lib.hid (advance_c b T n i B ct K S L w h hn hi hB)
  clear h
  go_enter Try.func17, Try.ntmps17
  go_wp2_with (go_at_call 25; (with_reducible refine C.out.mono ?_); rintro e w' ⟨rfl, hp, hb⟩; replace hp := Lib.hid hp)
  go_end0
  exact ⟨rfl, hp.out, hb⟩
theorem at_min (n k : Nat) (ct : ByteArray) (K S L : Nat → Int) : atK n K (min k n) = atK n K k ∧ atS n ct S (min k n) = atS n ct S k ∧ atL n L (min k n) = atL n L k := by
  unfold atK atS atL
  by_cases c : k < n
  · rw [Nat.min_eq_left (by omega)]; exact ⟨rfl, rfl, rfl⟩
  · rw [Nat.min_eq_right (by omega)]; simp [c]
set_option maxRecDepth 100000 in
set_option maxHeartbeats 4000000 in
theorem main (a0 : ByteArray) (a1 a2 a3 : Option Addr) (n cap1 cap2 cap3 ix : Nat) (K S L : Nat → Int) (w : World) (hs : a0.size + n + 8 * n + 8 * n ≤ 1048576) (hix : ix ≤ n)
    (r1 : Row .u8 w a1 n K) (r2 : Row .i32 w a2 n S) (r3 : Row .i32 w a3 n L) :
    Calls Try.prog 4 #[.string a0, .slice a1 n cap1, .slice a2 n cap2, .slice a3 n cap3, .int .i64 ix] w fun e w' => e = .returned (.bool true) ∧ Below w.heap.size w w' := by
  have C := Lib.hid (bytes_c a0 a1 a2 a3 n cap1 n cap2 n cap3 ix w (by unfold maxLen; omega) (by unfold maxLen; omega) (by unfold maxLen; omega) (by unfold maxLen; omega))
  have R1 := Lib.hid r1; have R2 := Lib.hid r2; have R3 := Lib.hid r3
  have k1 := fun W A c => run_neq_slice_nil_any (P := Try.prog) W 22 5 A n c 0 0 Try.underlying22
  have k2 := fun W A c => run_neq_slice_nil_any (P := Try.prog) W 23 21 A n c 0 0 Try.underlying23
  have m1 := fun W => make22 n (by omega) W
  have m2 := fun W => make23 n (by omega) W
  clear r1 r2 r3
  go_enter Try.func4, Try.ntmps4
  go_upto_if 85 with (go_at_call 13; (with_reducible refine C.out.mono ?_); rintro e w' ⟨b, rfl, rfl⟩; cases b)
  any_goals (go_ret; exact ⟨rfl, Below.refl _ _⟩)
  go_cut [1] (fun s1 wx => ∃ A c, s1 = .slice A n c ∧ Row .u8 wx A n K ∧ Below w.heap.size w wx)
  case first =>
    rcases a1 with _ | x1
    · go_wp2
      go_meet
      exact ⟨_, _, rfl, R1.out, Below.refl _ _⟩
    · have hb : Below w.heap.size w (w.alloc (.cells (madeCells #[.int .u8 0] n) 5)) := (Below.refl _ _).alloc (Nat.le_refl _) _
      have q1 := Lib.hid (R1.out.after hb)
      have g1 := Lib.hid (heap_alloc_new w (.cells (madeCells #[.int .u8 0] n) 5))
      have hB := Lib.hid hb
      clear hb
      go_wp2_with (with_reducible refine wpList_copyRow rfl (.tmp 89) (.tmp 90) 22 22 rfl 5 Try.underlying22 (by kernel_rfl) .u8 w.heap.size n n cap1 (some x1) K #[.int .u8 0] 5 rfl rfl q1.out g1.out w hB.out (Nat.le_refl _) ?_; intro w1 hr hb1; replace hr := Lib.hid hr; replace hb1 := Lib.hid hb1)
      go_meet
      exact ⟨_, _, rfl, hr.out, hb1.out⟩
  case rest =>
    obtain ⟨A1, d1, rfl, p1, hb1⟩ := hcut
    obtain ⟨wa, rfl⟩ : ∃ wa : World, wa = wc := ⟨_, rfl⟩
    replace p1 := Lib.hid p1
    replace hb1 := Lib.hid hb1
    go_upto_if 94 with (fail)
    go_cut [2] (fun s2 wx => ∃ A c, s2 = .slice A n c ∧ Row .i32 wx A n S ∧ Row .u8 wx A1 n K ∧ Below w.heap.size w wx)
    case first =>
      have q2 := Lib.hid (R2.out.after hb1.out)
      rcases a2 with _ | x2
      · go_wp2
        go_meet
        exact ⟨_, _, rfl, q2.out, p1.out, hb1.out⟩
      · have hb : Below wa.heap.size wa (wa.alloc (.cells (madeCells #[.int .i32 0] n) 21)) := (Below.refl _ _).alloc (Nat.le_refl _) _
        have q3 := Lib.hid (q2.out.after hb)
        have g1 := Lib.hid (heap_alloc_new wa (.cells (madeCells #[.int .i32 0] n) 21))
        have hB := Lib.hid hb
        clear hb
        go_wp2_with (with_reducible refine wpList_copyRow rfl (.tmp 98) (.tmp 99) 23 23 rfl 21 Try.underlying23 (by kernel_rfl) .i32 wa.heap.size n n cap2 (some x2) S #[.int .i32 0] 21 rfl rfl q3.out g1.out wa hB.out (Nat.le_refl _) ?_; intro w1 hr hb2; replace hr := Lib.hid hr; replace hb2 := Lib.hid hb2)
        go_meet
        exact ⟨_, _, rfl, hr.out, p1.out.after hb2.out, hb1.out.trans (hb2.out.mono hb1.out.size)⟩
    case rest =>
      clear p1 hb1
      obtain ⟨A2, d2, rfl, p2, p1, hb1⟩ := hcut
      obtain ⟨wb, rfl⟩ : ∃ wb : World, wb = wc := ⟨_, rfl⟩
      replace p1 := Lib.hid p1
      replace p2 := Lib.hid p2
      replace hb1 := Lib.hid hb1
      go_upto_if 103 with (fail)
      go_cut [3] (fun s3 wx => ∃ A c, s3 = .slice A n c ∧ Row .i32 wx A n L ∧ Row .i32 wx A2 n S ∧ Row .u8 wx A1 n K ∧ Below w.heap.size w wx)
      case first =>
        have q2 := Lib.hid (R3.out.after hb1.out)
        rcases a3 with _ | x3
        · go_wp2
          go_meet
          exact ⟨_, _, rfl, q2.out, p2.out, p1.out, hb1.out⟩
        · have hb : Below wb.heap.size wb (wb.alloc (.cells (madeCells #[.int .i32 0] n) 21)) := (Below.refl _ _).alloc (Nat.le_refl _) _
          have q3 := Lib.hid (q2.out.after hb)
          have g1 := Lib.hid (heap_alloc_new wb (.cells (madeCells #[.int .i32 0] n) 21))
          have hB := Lib.hid hb
          clear hb
          go_wp2_with (with_reducible refine wpList_copyRow rfl (.tmp 107) (.tmp 108) 23 23 rfl 21 Try.underlying23 (by kernel_rfl) .i32 wb.heap.size n n cap3 (some x3) L #[.int .i32 0] 21 rfl rfl q3.out g1.out wb hB.out (Nat.le_refl _) ?_; intro w1 hr hb2; replace hr := Lib.hid hr; replace hb2 := Lib.hid hb2)
          go_meet
          exact ⟨_, _, rfl, hr.out, p2.out.after hb2.out, p1.out.after hb2.out, hb1.out.trans (hb2.out.mono hb1.out.size)⟩
      case rest =>
        clear p1 p2 hb1 k1 k2 m1 m2
        obtain ⟨A3, d3, rfl, p3, p2, p1, hb1⟩ := hcut
        obtain ⟨wd, rfl⟩ : ∃ wd : World, wd = wc := ⟨_, rfl⟩
        have c14 := Lib.hid (new14_c a0 A1 A2 A3 n d1 d2 d3 ix K S L wd (by omega) (by omega) p1 p2 p3)
        have hb0 := Lib.hid hb1
        replace p1 := Lib.hid p1
        replace p2 := Lib.hid p2
        replace p3 := Lib.hid p3
        clear hb1
        have B1 : n ≤ 1048576 := by omega
        have B2 : a0.size ≤ 1048576 := by omega
        go_wp2_with (go_at_call 14; (with_reducible refine c14.out.mono ?_); rintro e w' ⟨b, T, rfl, hps, hzb, hb⟩; replace hps := Lib.hid hps; replace hb := Lib.hid hb)
        go_loopw [16, 17] (fun s16 s17 wr => ∃ q k : Nat, k ≤ n - ix + 2 ∧ q = min (ix + k) n ∧ s16 = .int .i64 q ∧ s17 = .int .i64 k ∧ PS wr b T n q a0 K S L ∧ Below wd.heap.size wd wr) (fun _ s17 _ => n - ix + 2 - (intOf s17).toNat)
        case atStart => exact ⟨ix, 0, by omega, by omega, rfl, rfl, hps.out, hb.out⟩
        case round =>
          clear hps hb c14
          obtain ⟨q, k, hk, hq, rfl, rfl, hp, hbe⟩ := hrel
          have hqn : q ≤ n := by omega
          have HQ := Lib.hid hq
          clear hq
          by_cases hlt : k < n - ix + 2
          · obtain ⟨m1, m2, m3⟩ := at_min n (ix + k) a0 K S L
            rw [← HQ.out] at m1 m2 m3
            have C1 := Lib.hid (zzcur_c b T n q a0 K S L wr hp B1 B2 (by omega))
            have M1 := Lib.hid (And.intro m1 (And.intro m2 m3))
            have hsum := Lib.hid (show (ix : Int) + (k : Int) = ((ix + k : Nat) : Int) by omega)
            have bnd : ix + k ≤ 2097152 := by omega
            have hq2 : q ≤ min (q + 1) n := by omega
            have hq3 : min (q + 1) n ≤ n := by omega
            have hq4 := Lib.hid (show min (q + 1) n = min (ix + (k + 1)) n by have := HQ.out; omega)
            replace hp := Lib.hid hp
            replace hbe := Lib.hid hbe
            clear m1 m2 m3
            go_wp2_with (first | (go_at_call 15; (with_reducible refine C1.out.mono ?_); rintro e w1 ⟨rfl, hb⟩; replace hp := Lib.hid (hp.out.after hb); replace hbe := Lib.hid (hbe.out.trans (hb.mono hbe.out.size)); clear hb C1) | (go_at_call 16; rw [hsum.out]; refine (model_c a0 A1 A2 A3 n _ _ _ (ix + k) K S L _ B1 B2 (by omega) (p1.out.after hbe.out) (p2.out.after hbe.out) (p3.out.after hbe.out)).mono ?_; rintro e w2 ⟨rfl, hb⟩; replace hp := Lib.hid (hp.out.after hb); replace hbe := Lib.hid (hbe.out.trans (hb.mono hbe.out.size)); clear hb; rw [← M1.out.1, ← M1.out.2.1, ← M1.out.2.2]) | (go_at_call 17; (with_reducible refine (adv17_c b T n q wd.heap.size a0 K S L _ hp.out B1 hqn hzb).mono ?_); rintro e w3 ⟨rfl, hp2, hb⟩; replace hp := Lib.hid hp2; replace hbe := Lib.hid (hbe.out.trans hb); clear hp2 hb) | (go_at_call 18; (with_reducible refine (index18_c _ _ _ _ _ _ _ _ _ hp.out).mono ?_); rintro e w4 ⟨rfl, rfl⟩))
            go_roundw
            case rel => exact ⟨min (q + 1) n, k + 1, by omega, hq4.out, rfl, by go_num, hp.out, hbe.out⟩
            case measure => simp [intOf]; omega
          · have hqq : q = n := by have := HQ.out; omega
            subst hqq
            replace hp := Lib.hid hp
            go_wp2_with (go_at_call 18; (with_reducible refine (index18_c _ _ _ _ _ _ _ _ _ hp.out).mono ?_); rintro e w4 ⟨rfl, rfl⟩)
            go_ret
            exact ⟨rfl, hb0.out.trans (hbe.mono hb0.out.size)⟩
set_option maxRecDepth 100000 in
set_option maxHeartbeats 4000000 in
theorem walk (a0 : ByteArray) (a1 : Option Addr) (len1 cap1 : Nat) (z1 : List Int) (a2 : Option Addr) (len2 cap2 : Nat) (z2 : List Int) (a3 : Option Addr) (len3 cap3 : Nat) (z3 : List Int) (a4 : Int) (w : World) (w0 : a0.size ≤ maxLen) (w1 : IsRow .u8 w a1 len1 cap1 z1) (w2 : IsRow .i32 w a2 len2 cap2 z2) (w3 : IsRow .i32 w a3 len3 cap3 z3) (w4 : (Lit.int .i64 a4).wf = true) :
    Calls Try.prog 4 #[.string a0, .slice a1 len1 cap1, .slice a2 len2 cap2, .slice a3 len3 cap3, .int .i64 a4] w fun e w' => e = .returned (.bool true) ∧ Below w.heap.size w w' := by
  obtain ⟨r1, l1⟩ := row_of w1
  obtain ⟨r2, l2⟩ := row_of w2
  obtain ⟨r3, l3⟩ := row_of w3
  by_cases hP : len2 = len1 ∧ len3 = len1 ∧ a0.size + len1 + 8 * len1 + 8 * len1 ≤ 1048576 ∧ 0 ≤ a4 ∧ a4 ≤ len1
  · obtain ⟨rfl, rfl, h1, h2, h3⟩ := hP
    obtain ⟨ix, rfl⟩ : ∃ ix : Nat, a4 = ix := ⟨a4.toNat, by omega⟩
    exact main a0 a1 a2 a3 _ cap1 cap2 cap3 ix _ _ _ w (by omega) (by omega) r1 r2 r3
  · have C := Lib.hid (bytes_c a0 a1 a2 a3 len1 cap1 len2 cap2 len3 cap3 a4 w w0 l1 l2 l3)
    have HP := Lib.hid hP
    clear hP r1 r2 r3 w1 w2 w3
    unfold maxLen at w0 l1 l2 l3
    go_enter Try.func4, Try.ntmps4
    go_upto_if 85 with (go_at_call 13; (with_reducible refine C.out.mono ?_); rintro e w' ⟨b, rfl, rfl⟩; cases b)
    any_goals (go_ret; exact ⟨rfl, Below.refl _ _⟩)
    exfalso
    have e3 : (len3 : Int) = len1 := by
      have := ‹((len3 : Int) != (len1 : Int)) = false›
      simpa using this
    exact HP.out ⟨by omega, by omega, by omega, by omega, by omega⟩
/-! ### THE ROW's STEP: WRITTEN OUT: LEAVE IT -/
set_option maxRecDepth 100000 in
theorem lifted (os : Os) (started : os.Started) (H : Type) (enc : TypeId × Value → H) :
    ReturnsInHanded {} Try.checked os 4 .any (Rows.fnAdvanceScanVisitsEveryTokenSpec.pre6 enc Try.prog Try.f4 Rows.fnAdvanceScanVisitsEveryTokenRow.domain false) (Rows.fnAdvanceScanVisitsEveryTokenSpec.post enc Try.prog Try.f4 false true false false) := by
  refine returnsInHanded_of_change (C := Try.checked) own started (by kernel_rfl) Try.func4
    (ChangeSpec.witness6 (enc := enc) (C := Try.checked) false ⟨#[], #[.string ByteArray.empty, .slice none 0 0, .slice none 0 0, .slice none 0 0, .int .i64 0], []⟩ 8 (by kernel_rfl) (by kernel_rfl) (by kernel_rfl) (by kernel_rfl)) ?_
  intro W base args ds gs before hval0 hW hcnd _
  have hval : ∀ (j : Nat) t v, Try.f4.params[j]? = some t → args[j]? = some v → Value.okWide Try.prog W .any base t v := hval0
  have hW' := hW
  obtain ⟨p, q, hA0, hV, rfl, hfz, hnd⟩ := hW
  have hA : DataW.TrodAll enc Try.prog W 0 (fun _ => true) true Try.f4.params.toList args.toList ds p := hA0
  rw [Try.params4] at hA hval
  obtain ⟨v0, vs0, d0, ds0, p0, q0, hargs, rfl, rfl, h0, r0⟩ := trodAll_cons hA
  obtain ⟨v1, vs1, d1, ds1, p1, q1, rfl, rfl, rfl, h1, r1⟩ := trodAll_cons r0
  obtain ⟨v2, vs2, d2, ds2, p2, q2, rfl, rfl, rfl, h2, r2⟩ := trodAll_cons r1
  obtain ⟨v3, vs3, d3, ds3, p3, q3, rfl, rfl, rfl, h3, r3⟩ := trodAll_cons r2
  obtain ⟨v4, vs4, d4, ds4, p4, q4, rfl, rfl, rfl, h4, r4⟩ := trodAll_cons r3
  obtain ⟨rfl, rfl, rfl⟩ := trodAll_nil r4
  obtain rfl : args = #[v0, v1, v2, v3, v4] := by cases args; simp_all
  obtain ⟨rfl, rfl⟩ := trodVars_none hV
  obtain ⟨a0, rfl, rfl, rfl, w0⟩ := open_string Try.underlying9 (hval 0 9 v0 rfl rfl) h0
  obtain ⟨a1, len1, cap1, rfl⟩ := okWide_slice Try.underlying22 (hval 1 22 v1 rfl rfl)
  have k1 := h1
  have lt1 : ∀ x ∈ p1, x.block < W.heap.size := by obtain ⟨m, hm⟩ := k1; exact DataW.trod_lt m _ _ _ hm
  obtain ⟨z1, w1⟩ : ∃ zs, IsRow .u8 W a1 len1 cap1 zs := by
    obtain ⟨fuel, hf⟩ := h1
    rcases open_ints Try.underlying22 Try.underlying5 (by kernel_rfl) hf with ⟨hcs, _⟩ | ⟨x, l, c, zs, hcs, _, hl, hm, hz, _, hcell, hwz⟩
    · simp [Value.cells] at hcs
      obtain ⟨rfl, rfl, rfl⟩ := hcs
      exact ⟨[], .inl ⟨rfl, rfl, rfl, rfl⟩⟩
    · simp [Value.cells] at hcs
      obtain ⟨rfl, rfl, rfl⟩ := hcs
      exact ⟨zs, .inr ⟨_, rfl, hl, hm, by simpa using hz, hcell, hwz⟩⟩
  obtain ⟨a2, len2, cap2, rfl⟩ := okWide_slice Try.underlying23 (hval 2 23 v2 rfl rfl)
  have k2 := h2
  have lt2 : ∀ x ∈ p2, x.block < W.heap.size := by obtain ⟨m, hm⟩ := k2; exact DataW.trod_lt m _ _ _ hm
  obtain ⟨z2, w2⟩ : ∃ zs, IsRow .i32 W a2 len2 cap2 zs := by
    obtain ⟨fuel, hf⟩ := h2
    rcases open_ints Try.underlying23 Try.underlying21 (by kernel_rfl) hf with ⟨hcs, _⟩ | ⟨x, l, c, zs, hcs, _, hl, hm, hz, _, hcell, hwz⟩
    · simp [Value.cells] at hcs
      obtain ⟨rfl, rfl, rfl⟩ := hcs
      exact ⟨[], .inl ⟨rfl, rfl, rfl, rfl⟩⟩
    · simp [Value.cells] at hcs
      obtain ⟨rfl, rfl, rfl⟩ := hcs
      exact ⟨zs, .inr ⟨_, rfl, hl, hm, by simpa using hz, hcell, hwz⟩⟩
  obtain ⟨a3, len3, cap3, rfl⟩ := okWide_slice Try.underlying23 (hval 3 23 v3 rfl rfl)
  have k3 := h3
  have lt3 : ∀ x ∈ p3, x.block < W.heap.size := by obtain ⟨m, hm⟩ := k3; exact DataW.trod_lt m _ _ _ hm
  obtain ⟨z3, w3⟩ : ∃ zs, IsRow .i32 W a3 len3 cap3 zs := by
    obtain ⟨fuel, hf⟩ := h3
    rcases open_ints Try.underlying23 Try.underlying21 (by kernel_rfl) hf with ⟨hcs, _⟩ | ⟨x, l, c, zs, hcs, _, hl, hm, hz, _, hcell, hwz⟩
    · simp [Value.cells] at hcs
      obtain ⟨rfl, rfl, rfl⟩ := hcs
      exact ⟨[], .inl ⟨rfl, rfl, rfl, rfl⟩⟩
    · simp [Value.cells] at hcs
      obtain ⟨rfl, rfl, rfl⟩ := hcs
      exact ⟨zs, .inr ⟨_, rfl, hl, hm, by simpa using hz, hcell, hwz⟩⟩
  obtain ⟨a4, rfl, rfl, rfl, w4⟩ := open_int Try.underlying3 (hval 4 3 v4 rfl rfl) h4
  clear hA0 hval0
  refine (walk a0 a1 len1 cap1 z1 a2 len2 cap2 z2 a3 len3 cap3 z3 a4 W w0 w1 w2 w3 w4).mono fun e W' ⟨he, bel⟩ => ?_
  subst he
  exact ⟨_, rfl, _, _, _, [], _, [], hW', trodAll_mk1 (shut_bool Try.underlying4 _), (trodAll_cons_mk (shut_string Try.underlying9 w0) (trodAll_cons_mk (Below.trod laidOut (by kernel_rfl) (of_decide_eq_true (by kernel_rfl)) k1 bel lt1) (trodAll_cons_mk (Below.trod laidOut (by kernel_rfl) (of_decide_eq_true (by kernel_rfl)) k2 bel lt2) (trodAll_cons_mk (Below.trod laidOut (by kernel_rfl) (of_decide_eq_true (by kernel_rfl)) k3 bel lt3) (trodAll_cons_mk (shut_int Try.underlying3 w4) trodAll_mk0))))), rfl, bel.frame _, fun h => by cases h⟩

theorem over : Rows.fnAdvanceScanVisitsEveryTokenRow.holds Try.pinned (OpenSpec.ofChange Rows.fnAdvanceScanVisitsEveryTokenSpec) :=
  OpenClaim.holds_of_wide 4 Try.f4 rfl rfl rfl rfl rfl rfl rfl ⟨rfl, rfl, rfl, rfl, rfl⟩ rfl rfl rfl rfl rfl (by kernel_rfl) Try.func4 (by kernel_rfl)
    (of_decide_eq_true (by kernel_rfl)) (by unfold Func.isWrapper; first | (rw [if_pos (by decide +kernel)]; kernel_rfl) | (rw [if_neg (by decide +kernel)]; exact ⟨rfl, rfl⟩))
    (fun os started H enc _ => lifted os started H enc)

/-- ████ THE STATEMENT ████ -/
theorem proved : Rows.FnAdvanceScanVisitsEveryTokenSaid := over
#print axioms proved
end Go.Proofs.Ytephkamknkambaa.fnAdvanceScanVisitsEveryToken
