/- The law FnIsValidCustomIdentMatchesAsciiModel, walked. -/
import Derived.Test.YtpjbhbbhkhfiaaaDoorCi6
import Derived.Lib.MapLaws
import Derived.Lib.TrimAscii
import Derived.Lib.LaidCaseMet
set_option linter.unusedVariables false
set_option linter.unusedSimpArgs false
namespace Go.Proofs.YtpjbhbbhkhfiaaaDoor
open Go.RowKit
open Go.Lib
theorem low_step (l : List UInt8) (hne : l ≠ []) : toLowerD l = (if 0 ≤ toLowerU (decodeL l).1 then encodeRune (toLowerU (decodeL l).1) else []) ++ toLowerD (l.drop (decodeL l).2) := mapD_step toLowerU l hne
theorem enc_one (r : Int) (h0 : 0 ≤ r) (h1 : r < 128) : encodeRune r = [UInt8.ofNat r.toNat] := by
  unfold encodeRune
  rw [encodeRuneZ_one h0 (by omega)]
  rfl
theorem low_ascii (r : Int) (h : r < 128) : toLowerU r = lwN r := by
  unfold toLowerU lwN
  rw [if_pos (by omega)]
theorem lower_list : ∀ l : List UInt8, (∀ c ∈ l, c.toNat < 128) → toLowerD l = l.map fun c => UInt8.ofNat (lwN c.toNat).toNat := by
  intro l
  induction l with
  | nil => intro _; rfl
  | cons c t ih =>
    intro h
    have hc := h c (by simp)
    have hst := low_step (c :: t) (by simp)
    have hdec := decodeL_ascii c t hc
    rw [hdec] at hst
    have e : toLowerU ((c.toNat : Nat) : Int) = lwN c.toNat := low_ascii _ (by omega)
    have hr : 0 ≤ lwN (c.toNat : Int) ∧ lwN (c.toNat : Int) < 128 := by unfold lwN; split <;> omega
    simp only at hst
    rw [e, if_pos hr.1, enc_one _ hr.1 hr.2] at hst
    rw [hst]
    show _ :: toLowerD (List.drop 1 (c :: t)) = _
    rw [List.drop_succ_cons, List.drop_zero, ih (fun d hd => h d (by simp [hd]))]
    rfl
/-- strings.ToLower's text -/
def lowS (s : ByteArray) : ByteArray := ⟨(toLowerD s.data.toList).toArray⟩
theorem lowS_eq {s : ByteArray} (hp : prB s = true) : lowS s = lowA s := by
  unfold lowS lowA strOfNums
  rw [lower_list _ (fun c hc => by
    unfold prB at hp
    rw [List.all_eq_true] at hp
    have := hp c hc
    unfold okB at this
    simp at this
    omega), List.map_map]
  rfl
theorem lowA_list (s : ByteArray) : (lowA s).toList = s.data.toList.map fun c => UInt8.ofNat (lwN c.toNat).toNat := by
  unfold lowA strOfNums
  rw [ByteArray.toList_eq, List.map_map]
  rfl
theorem lowA_size (s : ByteArray) : (lowA s).size = s.size := by
  have := congrArg List.length (lowA_list s)
  rw [List.length_map, Array.length_toList, ByteArray.toList_eq, Array.length_toList] at this
  exact this
theorem lowA_empty (s : ByteArray) : (lowA s).toList.isEmpty = s.toList.isEmpty := by
  rw [lowA_list, ByteArray.toList_eq s]
  cases s.data.toList <;> rfl
/-- looking up in a map of one entry -/
theorem look1 (W : World) (bm c : Nat) (kw s : ByteArray) (hb : W.heap[bm]? = some (.map #[⟨.string kw, .bool true, 0⟩] c)) : (Instr.lookup 47 (.map (some bm)) (.string s) false).run Tryd.prog W = .ok (.bool (eqB s kw)) W := by
  have hc : ∀ e, (Instr.checkKey e 10000 9 (.string s)).run Tryd.prog W = .ok () W := fun e => MapKept.run_checkKey (k := .string s) Tryd.underlying9 (by simp [MapKept.IsKey]) e 9999
  have hz : (zeroValue 4).run Tryd.prog W = .ok (.bool false) W := by kernel_rfl
  have he : eqB s kw = (s == kw) := by
    unfold eqB
    rw [ByteArray.toList_eq, ByteArray.toList_eq]
    show _ = (s.data == kw.data)
    rw [Bool.eq_iff_iff, beq_iff_eq, beq_iff_eq, Array.toList_inj]
  rw [he]
  have hf : Instr.findNow .string (.string s) [(⟨.string kw, .bool true, 0⟩ : MapEntry)] 0 = if (s == kw) = true then some (some (0, .bool true)) else some none := by
    show (match some (s == kw) with
      | some true => some (some (0, Value.bool true))
      | some false => some none
      | none => none) = _
    cases (s == kw) <;> rfl
  cases hq : (s == kw) with
  | true =>
    rw [hq, if_pos rfl] at hf
    simp [Instr.lookup, run_underlying Tryd.underlying47, MapKept.run_getObj_map hb, hc, MapKept.run_findKey Tryd.underlying9 hf, Result.andThen]
  | false =>
    rw [hq, if_neg (by decide)] at hf
    simp [Instr.lookup, run_underlying Tryd.underlying47, MapKept.run_getObj_map hb, hc, MapKept.run_findKey Tryd.underlying9 hf, Result.andThen, hz]
set_option maxRecDepth 100000 in
set_option maxHeartbeats 2000000 in
theorem zz17_c (s : ByteArray) (bp : Nat) (v : Bool) (w : World) (C : Calls Tryd.prog 24 #[.string s, .map (some bp)] w (fun e w' => e = .returned (.bool v) ∧ Below w.heap.size w w')) : Calls Tryd.prog 17 #[.string s, .map (some bp)] w (fun e w' => e = .returned (.bool v) ∧ Below w.heap.size w w') := by
  have HC := Lib.hid C
  clear C
  go_enter Tryd.func17, Tryd.ntmps17
  go_wp2_with (go_at_call 24; (with_reducible refine HC.out.mono ?_); rintro e w' ⟨rfl, hb⟩)
  go_ret
  exact ⟨rfl, hb⟩
set_option maxRecDepth 100000 in
set_option maxHeartbeats 2000000 in
theorem law_early (s kw : ByteArray) (w : World) (ws : s.size ≤ 9223372036854775807) (wk : kw.size ≤ 9223372036854775807) (h : ¬ (s.size + kw.size ≤ 1048576)) : Calls Tryd.prog 4 #[.string s, .string kw] w fun e w' => e = .returned (.bool true) ∧ Below w.heap.size w w' := by
  have C := Lib.hid (fun w => bytes_no s kw w (by omega) ws wk)
  clear h ws wk
  go_enter Tryd.func4, Tryd.ntmps4
  go_wp2_with (go_at_call 15; (with_reducible refine (C.out _).mono ?_); rintro e w' ⟨rfl, rfl⟩)
  go_ret
  exact ⟨rfl, Below.refl _ _⟩
set_option maxRecDepth 100000 in
set_option maxHeartbeats 2000000 in
theorem law_np (s kw : ByteArray) (w : World) (h : s.size + kw.size ≤ 1048576) (hp : prB s = false) : Calls Tryd.prog 4 #[.string s, .string kw] w fun e w' => e = .returned (.bool true) ∧ Below w.heap.size w w' := by
  have C := Lib.hid (fun w => bytes_yes s kw w h)
  have C2 := Lib.hid (fun w => print_c s w (by omega))
  rw [hp] at C2
  clear hp
  go_enter Tryd.func4, Tryd.ntmps4
  go_wp2_with (first | (go_at_call 15; (with_reducible refine (C.out _).mono ?_); rintro e w' ⟨rfl, rfl⟩) | (go_at_call 16; (with_reducible refine (C2.out _).mono ?_); rintro e w' ⟨rfl, rfl⟩))
  go_ret
  exact ⟨rfl, Below.refl _ _⟩
set_option maxRecDepth 100000 in
set_option maxHeartbeats 2000000 in
theorem law_dash (s kw : ByteArray) (w : World) (h : s.size + kw.size ≤ 1048576) (hp : prB s = true) (hd : (s.toList == [45]) = true) : Calls Tryd.prog 4 #[.string s, .string kw] w fun e w' => e = .returned (.bool true) ∧ Below w.heap.size w w' := by
  have C := Lib.hid (fun w => bytes_yes s kw w h)
  have C2 := Lib.hid (fun w => print_c s w (by omega))
  rw [hp] at C2
  clear hp
  go_enter Tryd.func4, Tryd.ntmps4
  go_wp2_with (first | (go_at_call 15; (with_reducible refine (C.out _).mono ?_); rintro e w' ⟨rfl, rfl⟩) | (go_at_call 16; (with_reducible refine (C2.out _).mono ?_); rintro e w' ⟨rfl, rfl⟩))
  go_ret
  exact ⟨rfl, Below.refl _ _⟩
set_option maxRecDepth 100000 in
set_option maxHeartbeats 2000000 in
theorem law_main (s kw : ByteArray) (w : World) (hL : Low lowS w) (hR : Res cssW w) (h : s.size + kw.size ≤ 1048576) (hp : prB s = true) (hd : (s.toList == [45]) = false) : Calls Tryd.prog 4 #[.string s, .string kw] w fun e w' => e = .returned (.bool true) ∧ Below w.heap.size w w' := by
  have hs : s.size ≤ 1048576 := by omega
  have hk : kw.size ≤ 1048576 := by omega
  have C := Lib.hid (fun w => bytes_yes s kw w h)
  have C2 := Lib.hid (fun w => print_c s w hs)
  rw [hp] at C2
  have h2 : 0 < s.size → bN s 0 = 45 → 2 ≤ s.size := fun h0 h1 => by
    by_cases c : 2 ≤ s.size
    · exact c
    · exfalso
      have e : s.toList = [45] := by
        rw [ByteArray.toList_eq]
        have hl : s.data.toList.length = 1 := by rw [Array.length_toList]; show s.size = 1; omega
        unfold bN at h1
        match hq : s.data.toList, hl with
        | [a], _ =>
          rw [hq] at h1
          have h1 : ((a.toNat : Nat) : Int) = 45 := h1
          have : a = 45 := UInt8.toNat_inj.1 (by show a.toNat = 45; omega)
          rw [this]
      rw [e] at hd; exact absurd hd (by decide)
  -- the map
  obtain ⟨W1, hW1⟩ : ∃ W1 : World, W1 = { w.alloc (.map #[] 0) with heap := (w.alloc (.map #[] 0)).heap.setIfInBounds w.heap.size (.map #[{ key := .string kw, val := .bool true, born := 0 }] (0 + 1)) } := ⟨_, rfl⟩
  have hb0 : (w.alloc (.map #[] 0)).heap[w.heap.size]? = some (.map #[] 0) := heap_alloc_new _ _
  have kup := run_mapUpdate_first (P := Tryd.prog) (w := w.alloc (.map #[] 0)) 47 9 4 w.heap.size 0 kw (.bool true) Tryd.underlying47 Tryd.underlying9 hb0
  rw [← hW1] at kup
  have kmk := run_makeMap (P := Tryd.prog) 47 w
  have hm1 : W1.heap[w.heap.size]? = some (.map #[⟨.string kw, .bool true, 0⟩] 1) := by rw [hW1]; exact (MapKept.heap_set hb0).1
  have hb1 : Below w.heap.size w W1 := by
    rw [hW1]
    refine ⟨rfl, rfl, rfl, ?_, fun k hk => ?_⟩
    · show w.heap.size ≤ ((w.heap.push _).setIfInBounds _ _).size
      rw [Array.size_setIfInBounds, Array.size_push]; omega
    · exact ((MapKept.heap_set hb0).2 k (by omega)).trans (((Below.refl _ w).alloc (Nat.le_refl _) _).block k hk)
  have hz1 : w.heap.size < W1.heap.size := (Array.getElem?_eq_some_iff.1 hm1).1
  clear hW1 hb0
  obtain ⟨bm, hc0, hlook⟩ := hR.look hb1
  have eLS := lowS_eq hp
  have hgl : 0 < w.heap.size := by
    obtain ⟨b', es, cl, q, _⟩ := hR
    exact block_lt_of_cell q
  have C17 := zz17_c s w.heap.size _ W1 (valid_loop s (lowA s) w W1 hs hp bm w.heap.size (lowA_empty s) h2
    (fun w' hb' => by have := hL s w' hs (hb1.trans (hb'.mono hb1.size)); rw [eLS] at this; exact this)
    (fun W hW => ac hW hc0) (eqB (lowA s) kw) (cssW (lowA s)) true
    (fun W hW => look1 W _ 1 kw _ (by rw [hW.block _ hz1]; exact hm1))
    (fun W hW => hlook _ W (by rw [lowA_size]; unfold maxLen; omega) (hb1.trans (hW.mono hb1.size))))
  have ev : vdB (eqB (lowA s) kw) (cssW (lowA s)) s (lowA s) = mdB s kw := by
    unfold vdB mdB
    rw [lowA_empty]
  rw [ev] at C17
  have H17 := Lib.hid C17
  have C18 := Lib.hid (fun w => model_c s kw w hs hp h2)
  have HB1 := Lib.hid hb1
  clear C17 h2 hR hL hp eLS hlook hc0 hm1 hz1 ev h hb1
  generalize mdB s kw = m at *
  go_enter Tryd.func4, Tryd.ntmps4
  go_wp2_with (first | (go_at_call 15; (with_reducible refine (C.out _).mono ?_); rintro e w' ⟨rfl, rfl⟩) | (go_at_call 16; (with_reducible refine (C2.out _).mono ?_); rintro e w' ⟨rfl, rfl⟩) | (go_at_call 17; (with_reducible refine H17.out.mono ?_); rintro e w2 ⟨rfl, hb2⟩; replace hb2 := Lib.hid hb2) | (go_at_call 18; (with_reducible refine (C18.out _).mono ?_); rintro e w3 ⟨rfl, hb3⟩))
  go_ret
  have z := HB1.out.size
  exact ⟨ret_bool (by simp), HB1.out.trans ((hb2.out.mono z).trans (hb3.mono (Nat.le_trans z hb2.out.size)))⟩
theorem walk4 (s kw : ByteArray) (w : World) (hL : Low lowS w) (hR : Res cssW w) (ws : s.size ≤ 9223372036854775807) (wk : kw.size ≤ 9223372036854775807) : Calls Tryd.prog 4 #[.string s, .string kw] w fun e w' => e = .returned (.bool true) ∧ Below w.heap.size w w' := by
  by_cases h : s.size + kw.size ≤ 1048576
  · cases hp : prB s
    · exact law_np s kw w h hp
    · cases hd : (s.toList == [45])
      · exact law_main s kw w hL hR h hp hd
      · exact law_dash s kw w h hp hd
  · exact law_early s kw w ws wk h
end Go.Proofs.YtpjbhbbhkhfiaaaDoor
