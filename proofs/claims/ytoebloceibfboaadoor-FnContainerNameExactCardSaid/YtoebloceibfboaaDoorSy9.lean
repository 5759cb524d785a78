/- handleSingleContainerName at one token: the law's walk, given what strings.ToLower and the reserved words' map answer. -/
import Derived.Test.YtoebloceibfboaaDoorSy7
import Derived.Test.YtoebloceibfboaaDoorSy8
set_option linter.unusedVariables false
set_option linter.unusedSimpArgs false
namespace Go.Proofs.YtoebloceibfboaaDoor
open Go.RowKit
open Go.Lib
theorem enc_len (r : Int) : (encodeRune r).length ≤ 4 := by
  unfold encodeRune encodeRuneZ
  repeat (first | split | simp)
theorem low_len : ∀ (n : Nat) (l : List UInt8), l.length = n → (toLowerD l).length ≤ 4 * n := by
  intro n
  induction n using Nat.strongRecOn with
  | ind n ih =>
    intro l hl
    by_cases hne : l = []
    · subst hne; simp [toLowerD, mapD, mapGoD]
    · have hw := decodeL_width l
      have hle := decodeL_le l hne
      rw [low_step l hne, List.length_append]
      have h1 : (if 0 ≤ toLowerU (decodeL l).1 then encodeRune (toLowerU (decodeL l).1) else []).length ≤ 4 := by
        split
        · exact enc_len _
        · simp
      have h2 := ih (l.drop (decodeL l).2).length (by rw [List.length_drop]; omega) _ rfl
      rw [List.length_drop] at h2
      omega
theorem lowS_size (s : ByteArray) (h : s.size ≤ 1048576) : (lowS s).size ≤ maxLen := by
  have := low_len _ s.data.toList rfl
  have e : (lowS s).size = (toLowerD s.data.toList).length := by simp [lowS, ByteArray.size]
  have e2 : s.data.toList.length = s.size := by rw [Array.length_toList]; rfl
  rw [e]; unfold maxLen; omega
/-- the reserved words' map answers as it is laid -/
def ResOk (res : ByteArray → Bool) : Prop := ∀ L : ByteArray, (isNone L || res L) = isW L
theorem keeps_eq {res : ByteArray → Bool} (h : ResOk res) (s : ByteArray) : keeps lowS res s = resF s := by
  unfold keeps; rw [h, isW_low]
theorem bytes5_c (k p : Int) (s : ByteArray) (mk : Bool) (w : World) (hs : s.size ≤ maxLen) : Calls Tryd.prog 5 #[.int .u8 k, .string s, .int .u32 p, .bool mk] w (fun e w' => ∃ x : Bool, e = .returned (.bool x) ∧ (x = true → s.size ≤ 1048576) ∧ w = w') := by
  unfold maxLen at hs
  go_enter Tryd.func5, Tryd.ntmps5
  go_wp2_with fail
  all_goals (go_ret; exact ⟨_, rfl, (fun h => by first | exact absurd h (by decide) | omega), rfl⟩)
theorem hs7_c (B T : Nat) (w : World) (Q : World → Prop) (h : Calls Tryd.prog 18 #[.pointer (some ⟨B, 0, none⟩), .pointer (some ⟨T, 0, none⟩)] w (fun e w' => e = .returned (.tuple #[]) ∧ Q w')) :
    Calls Tryd.prog 7 #[.pointer (some ⟨B, 0, none⟩), .pointer (some ⟨T, 0, none⟩)] w (fun e w' => e = .returned (.tuple #[]) ∧ Q w') := by
  have H := Lib.hid h
  clear h
  go_enter Tryd.func7, Tryd.ntmps7
  go_wp2_with (go_at_call 18; (with_reducible refine H.out.mono ?_); rintro e w1 ⟨rfl, hq⟩; replace hq := Lib.hid hq)
  exact bodyPost_end (v := .tuple #[]) (by simp [results, Tryd.results7, go_sem]) rfl ⟨rfl, hq.out⟩
theorem rowN_one (w : World) (r : SyR) : RowN (w.alloc (.cells #[.string r.name] 9)) (some ⟨w.heap.size, 0, none⟩) [r] := fun i q hi => by
  cases i with
  | zero => simp at hi; subst hi; exact ⟨_, rfl, by simp [go_sem, Addr.add]⟩
  | succ i => simp at hi
theorem rowU_one (w : World) (r : SyR) : RowU (w.alloc (.cells #[.int .u32 r.uses] 22)) (some ⟨w.heap.size, 0, none⟩) [r] := fun i q hi => by
  cases i with
  | zero => simp at hi; subst hi; exact ⟨_, rfl, by simp [go_sem, Addr.add]⟩
  | succ i => simp at hi
theorem tok_new (w : World) (t : Tk) : TAt (w.alloc (.cells #[t.ch, .string t.tx, .int .i32 t.lo, .int .u32 t.pl, .int .u16 t.uo, .int .u8 t.kd, .int .u8 t.ws] 33)) w.heap.size 0 t :=
  ⟨by simp [go_sem], by simp [go_sem], by simp [go_sem], by simp [go_sem], by simp [go_sem], by simp [go_sem], by simp [go_sem]⟩
set_option maxRecDepth 100000 in
set_option maxHeartbeats 2000000 in
theorem walk3 (res : ByteArray → Bool) (hres : ResOk res) (kind : Int) (text : ByteArray) (payload : Int) (mk : Bool) (w : World) (hL : Low lowS w) (hR : Res res w) (hI : Inv w) (hG : 2 ≤ w.heap.size) (ht : text.size ≤ maxLen) :
    Calls Tryd.prog 3 #[.int .u8 kind, .string text, .int .u32 payload, .bool mk] w (fun e w' => e = .returned (.bool true) ∧ Below w.heap.size w w') := by
  have C5 := Lib.hid (bytes5_c kind payload text mk w ht)
  have C6 := Lib.hid (new6_c mk w)
  have hL' := Lib.hid hL; have hR' := Lib.hid hR; have hI' := Lib.hid hI; have hres' := Lib.hid hres
  clear hL hR hI hres
  go_enter Tryd.func3, Tryd.ntmps3
  go_upto_region 3 with (go_at_call 5; (with_reducible refine C5.out.mono ?_); rintro e w1 ⟨x, rfl, hx, rfl⟩; cases x)
  any_goals (go_ret; exact ⟨rfl, Below.refl _ _⟩)
  have hts := hx (by simp)
  clear hx C5
  go_upto_region 6 with (go_at_call 6; (with_reducible refine C6.out.mono ?_); rintro e w1 ⟨B, S, rfl, hb1, hps⟩; replace hb1 := Lib.hid hb1; replace hps := Lib.hid hps)
  clear C6
  go_upto_region 7 with fail
  refine wp_gen (fun W2 hW => ?_)
  have hT : Hid (TAt W2 w1.heap.size 0 ⟨.pointer none, text, 0, payload, 0, kind, 0⟩) := Lib.hid (by rw [hW]; exact tok_new w1 ⟨.pointer none, text, 0, payload, 0, kind, 0⟩)
  have hfz : ∀ j, j < 7 → W2.frozen? ⟨w1.heap.size, 0 + j, none⟩ = false := fun j hj => by rw [hW]; simp [go_sem]
  have hb2 : Below w1.heap.size w1 W2 := by rw [hW]; exact ba _ _
  clear hW
  have hps2 := hps.out.below hb2
  have hBw := hb1.out.trans (hb2.mono hb1.out.size)
  have hz1 := hb1.out.size
  obtain ⟨m1, m2, v1, v2, D, hPR⟩ := hps.out
  have hTS : ¬ S w1.heap.size := fun h => by have := hPR.lS _ h; omega
  have hgS := Lib.hid hPR.gS
  clear hPR
  have C18 := hs18_c lowS res w W2 hL'.out hR'.out hI'.out hBw S B mk [] 0 (FitS.nil 0) (by omega) hps2 hG w1.heap.size 0 ⟨.pointer none, text, 0, payload, 0, kind, 0⟩ hT.out rfl hts (lowS_size _ hts) hTS hz1 hfz
  have C7 := Lib.hid (hs7_c B w1.heap.size W2 _ C18)
  have hgz := Lib.hid hTS
  clear C18 hfz hT hps hps2 hTS hb2
  have hBw' := Lib.hid hBw
  clear hBw
  go_upto_region 8 with (go_at_call 7; (with_reducible refine C7.out.mono ?_); rintro e w3 ⟨rfl, hH⟩; replace hH := Lib.hid hH)
  clear C7
  have hB3 : Hid (Below w.heap.size w w3) := Lib.hid (hBw'.out.trans (hH.out.kp.below hBw'.out.size (fun b q => by rcases q with q | q; exact hgS.out _ q; omega)))
  have htx : (hsT lowS res [] ⟨.pointer none, text, 0, payload, 0, kind, 0⟩).tx = text := by unfold hsT; split <;> rfl
  have c1 := hH.out.tok.c1
  rw [htx, Nat.zero_add] at c1
  have C8 := Lib.hid (res8_c text w3 hts)
  have ek := keeps_eq hres'.out text
  obtain ⟨S', hps', hS'⟩ := hH.out.ps
  have hps3 := Lib.hid hps'
  clear hps' hS'
  cases hr : resF text with
  | true =>
    rw [hr] at C8 ek
    have e1 : hsT lowS res [] ⟨.pointer none, text, 0, payload, 0, kind, 0⟩ = ⟨.pointer none, text, 0, payload, 0, kind, 0⟩ := by unfold hsT; rw [if_pos ek]
    have e2 : hsL lowS res [] ⟨.pointer none, text, 0, payload, 0, kind, 0⟩ = [] := by unfold hsL; rw [if_pos ek]
    have htok := hH.out.tok
    rw [e1] at htok
    rw [e2] at hps3
    have C9 : ∀ W, Below w3.heap.size w3 W → Calls Tryd.prog 9 #[.pointer (some ⟨B, 0, none⟩)] W (Gv (.int .i64 0) W) := fun W hW => by simpa using cnt9_c W S' w.heap.size B mk [] (hps3.out.below hW)
    have C10 : ∀ W, Below w3.heap.size w3 W → Calls Tryd.prog 10 #[.pointer (some ⟨B, 0, none⟩)] W (Gv (.int .i64 0) W) := fun W hW => by simpa using cnt10_c W S' w.heap.size B mk [] (hps3.out.below hW)
    replace C9 := Lib.hid C9; replace C10 := Lib.hid C10
    have q3 := htok.c3; have q5 := htok.c5
    simp only [Nat.zero_add] at q3 q5
    clear e1 e2 hH hps3 hgz hgS hBw' hL' hR' hI' hres' htok
    go_wp2_with (first | (go_at_call 8; (with_reducible refine C8.out.mono ?_); rintro e w4 ⟨rfl, hb4⟩; have x3 := ac hb4 q3; have x5 := ac hb4 q5; replace hb4 := Lib.hid hb4) | (go_at_call 9; (with_reducible refine (C9.out _ hb4.out).mono ?_); rintro e w5 ⟨rfl, hb5⟩; replace hb4 := Lib.hid (hb4.out.trans (hb5.mono hb4.out.size)); clear hb5) | (go_at_call 10; (with_reducible refine (C10.out _ hb4.out).mono ?_); rintro e w6 ⟨rfl, hb5⟩; replace hb4 := Lib.hid (hb4.out.trans (hb5.mono hb4.out.size)); clear hb5))
    go_ret
    exact ⟨rfl, hB3.out.trans (hb4.out.mono hB3.out.size)⟩
  | false =>
    rw [hr] at C8 ek
    have e1 : hsT lowS res [] ⟨.pointer none, text, 0, payload, 0, kind, 0⟩ = ⟨.pointer none, text, 0, 0, 0, 39, 0⟩ := by unfold hsT; rw [if_neg (by simp [ek])]; rfl
    have e2 : hsL lowS res [] ⟨.pointer none, text, 0, payload, 0, kind, 0⟩ = [⟨text, 1⟩] := by unfold hsL; rw [if_neg (by simp [ek])]; rfl
    have htok := hH.out.tok
    rw [e1] at htok
    rw [e2] at hps3
    have q3 := htok.c3; have q5 := htok.c5
    simp only [Nat.zero_add] at q3 q5
    clear e1 e2 hH hgz hgS hBw' hL' hR' hI' hres' htok
    go_upto_region 14 with (go_at_call 8; (with_reducible refine C8.out.mono ?_); rintro e w4 ⟨rfl, hb4⟩; have x3 := ac hb4 q3; have x5 := ac hb4 q5; replace hb4 := Lib.hid hb4)
    clear x3 x5 q3 q5 c1 C8
    go_upto_region 16 with fail
    refine wp_gen (fun W5 hW => ?_)
    have r1 : RowN W5 (some ⟨w4.heap.size, 0, none⟩) [⟨text, 1⟩] := by rw [hW]; exact (rowN_one w4 ⟨text, 1⟩).after (ba _ _)
    have r2 : RowU W5 (some ⟨w4.heap.size + 1, 0, none⟩) [⟨text, 1⟩] := by
      rw [hW]
      have := rowU_one (w4.alloc (.cells #[.string text] 9)) ⟨text, 1⟩
      simpa using this
    have hb5 : Below w4.heap.size w4 W5 := by rw [hW]; exact (ba _ _).alloc (by simp) _
    clear hW
    have hb35 := hb4.out.trans (hb5.mono hb4.out.size)
    have C11 : Hid (Calls Tryd.prog 11 #[.pointer (some ⟨B, 0, none⟩), .slice (some ⟨w4.heap.size, 0, none⟩) 1 1, .slice (some ⟨w4.heap.size + 1, 0, none⟩) 1 1, .bool mk] W5 (Gv (.bool true) W5)) := Lib.hid (table11_c W5 S' w.heap.size B mk [⟨text, 1⟩] (hps3.out.below hb35) (by simp) _ _ 1 1 r1 r2)
    have hBf := Lib.hid (hB3.out.trans (hb35.mono hB3.out.size))
    clear r1 r2 hb5 hb35 hps3 hB3 hb4
    go_wp2_with (go_at_call 11; (with_reducible refine C11.out.mono ?_); rintro e w6 ⟨rfl, hb6⟩; replace hBf := Lib.hid (hBf.out.trans (hb6.mono hBf.out.size)); clear hb6)
    go_ret
    exact ⟨rfl, hBf.out⟩
end Go.Proofs.YtoebloceibfboaaDoor
