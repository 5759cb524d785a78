/- FnFlattenMatchesStreamModel: the model's encoding of a subclass selector; does it contain a local or global. -/
import Derived.Test.YtjigljpodkfchadFlx
set_option linter.unusedVariables false
set_option linter.unusedSimpArgs false
namespace Go.Proofs.Ytjigljpodkfchad
open Go.RowKit
set_option maxRecDepth 100000
set_option maxHeartbeats 40000000
theorem kindZ_set (c : Int) : kindZ c = 0 ∨ kindZ c = 3 ∨ kindZ c = 2 ∨ kindZ c = 4 ∨ kindZ c = 9 ∨ kindZ c = 1 := by unfold kindZ; (repeat' split) <;> omega
theorem digZ_size (c : Int) : (digZ c).size = 1 := by unfold digZ; (repeat' split) <;> rfl
theorem RetS.retV {v : Value} {w : World} {e : Ending} {w' : World} (h : RetS v w e w') : RetV v w e w' := by
  obtain ⟨rfl, rfl⟩ := h
  exact ⟨rfl, Below.refl _ _⟩
theorem enc_inr (kd : Int) (l : List (Ck ByteArray)) : enc (.inr (kd, l)) = (⟨#[119]⟩ ++ digZ kd) ++ bs (encL l) := by
  show bs _ = _
  rw [show (119 :: byt (digZ kd) ++ encL l : List Int) = [119] ++ byt (digZ kd) ++ encL l by rfl, bs_app, bs_app, bs_byt]
  have : bs [119] = ⟨#[119]⟩ := by decide
  rw [this]
def StrQ (s : ByteArray) (w : World) (e : Ending) (w' : World) : Prop := e = .returned (.string s) ∧ Below w.heap.size w w'
theorem enc24_c (s : Zs) (ia : Option Addr) (ic : Nat) (hkd : U8 s.kd) (hnm : s.nm.size ≤ 1048576) (hil : s.inn.length ≤ 1048576) (hE : (encL (s.inn.map Zi.key)).length ≤ 20000000) (w : World) (h : RI w ia s.inn) : Calls Try.prog 24 #[.agg #[.bool s.wr, .int .u8 s.kd, .string s.nm, .slice ia s.inn.length ic]] w (RetV (.string (enc s.key)) w) := by
  obtain ⟨wr, kd, nm, inn⟩ := s
  simp only at h hnm hE hil hkd ⊢
  cases wr with
  | false =>
    have q1 : ¬ (9223372036854775807 < 1 + nm.size) := by omega
    show Calls Try.prog 24 _ w (RetV (.string (⟨#[46]⟩ ++ nm)) w)
    clear h hE
    go_enter Try.func24, Try.ntmps24
    go_wp2
    exact bodyPost_ret (v := .string (⟨#[46]⟩ ++ nm)) (by simp [results, Try.results24, go_sem]) rfl ⟨rfl, ba _ _⟩
  | true =>
    show Calls Try.prog 24 _ w (RetV (.string (enc (.inr (kindZ kd, inn.map Zi.key)))) w)
    rw [enc_inr]
    have hk := kindZ_set kd
    have hDs := digZ_size (kindZ kd)
    have hEs : (bs (encL (inn.map Zi.key))).size ≤ 20000000 := by rw [bs_size]; exact hE
    have C32 := Lib.hid (fun W => (kind32_c kd hkd.1 hkd.2 W).mono (fun _ _ h => h.retV))
    have C35 := Lib.hid (fun W => (dig35_c (kindZ kd) hk W).mono (fun _ _ h => h.retV))
    have C36 := Lib.hid (fun W (hb : Below w.heap.size w W) => enc36_c inn _ rfl hil hE ia ic W (h.after hb))
    obtain ⟨K, hK⟩ : ∃ y, kindZ kd = y := ⟨_, rfl⟩
    rw [hK] at hDs C35 C32 ⊢
    obtain ⟨D, hD⟩ : ∃ y, digZ K = y := ⟨_, rfl⟩
    rw [hD] at hDs C35 ⊢
    obtain ⟨E, hE2⟩ : ∃ y, bs (encL (inn.map Zi.key)) = y := ⟨_, rfl⟩
    rw [hE2] at hEs C36 ⊢
    obtain ⟨il, hil2⟩ : ∃ y, inn.length = y := ⟨_, rfl⟩
    rw [hil2] at C36 ⊢
    have q1 : ¬ (9223372036854775807 < 2 + E.size) := by omega
    clear hK hD hE2 hil2 hk h hE hil
    go_enter Try.func24, Try.ntmps24
    go_upto_region 3 with fail
    refine wp_gen (fun W hW => ?_)
    have bW : Hid (Below w.heap.size w W) := Lib.hid (by rw [hW]; exact ba _ _)
    have x1 : W.cell? ⟨w.heap.size, 1, none⟩ = some (.int .u8 kd) := by rw [hW]; simp [go_sem]
    have x3 : W.cell? ⟨w.heap.size, 3, none⟩ = some (.slice ia il ic) := by rw [hW]; simp [go_sem]
    clear hW
    have C36' := Lib.hid (fun d os => C36.out (Sort.grow (redrawn W d) os) (bW.out.trans ((below_regrown W d os).mono bW.out.size)))
    replace x1 := fun d os => cell_regrown x1 d os
    replace x3 := fun d os => cell_regrown x3 d os
    refine drawn_tail 9 (by kernel_rfl) (by kernel_rfl) (by kernel_rfl) (fun Q hQ => ?_)
    simp only [List.take_succ_cons, List.take_zero, List.drop_succ_cons, List.drop_zero]
    repeat (quiet_step (first | exact Calls.regrown_of (C32.out _) | exact Calls.regrown_of (C35.out _) | exact Calls.regrown_of (C36'.out _ _)))
    refine wpQuiet_nil ?_
    intro W6 hw
    have b6 : Hid (Below W.heap.size W W6) := Lib.hid (by
      obtain ⟨⟨d, os⟩, rfl⟩ := hw
      exact below_regrown _ d os)
    clear hw x1 x3
    go_wp2
    exact bodyPost_ret (v := .string ((⟨#[119]⟩ ++ D) ++ E)) (by simp [results, Try.results24, go_sem]) rfl ⟨rfl, bW.out.trans (b6.out.mono bW.out.size)⟩
def hasK (l : List Zc) : Bool := (l.map Zc.key).any (fun x => x.ks.any isLg)
theorem kind_lg (c : Int) (h0 : 0 ≤ c) : ((kindZ c == 0) || (kindZ c == 3)) = lgK c := by
  unfold lgK kindZ
  have h6 : c % 6 = 0 ∨ c % 6 = 1 ∨ c % 6 = 2 ∨ c % 6 = 3 ∨ c % 6 = 4 ∨ c % 6 = 5 := by omega
  rcases h6 with h | h | h | h | h | h <;> rw [h] <;> decide
theorem isLg_key (s : Zs) (h : 0 ≤ s.kd) : isLg s.key = if s.wr then lgK s.kd else lgN s.nm := by
  unfold Zs.key
  cases s.wr with
  | true => simp only [if_true]; exact kind_lg s.kd h
  | false => rfl
theorem has22_c (l : List Zc) (n : Nat) (hn : l.length = n) (hn2 : n ≤ 1048576) (hin : ∀ x ∈ l, x.ss.length ≤ 1048576) (a : Option Addr) (cc : Nat) (w : World) (h : RC w a l) : Calls Try.prog 22 #[.slice a n cc] w (RetV (.bool (hasK l)) w) := by
  have hyes : ∀ (k j : Nat) x s, l[k]? = some x → x.ss[j]? = some s → isLg s.key = true → hasK l = true := fun k j x s hx hs hq => by
    unfold hasK
    refine List.any_eq_true.2 ⟨x.key, List.mem_map.2 ⟨x, List.mem_of_getElem? hx, rfl⟩, List.any_eq_true.2 ⟨s.key, ?_, hq⟩⟩
    exact List.mem_map.2 ⟨s, List.mem_of_getElem? hs, rfl⟩
  have hno : (∀ (k j : Nat) x s, l[k]? = some x → x.ss[j]? = some s → isLg s.key = false) → hasK l = false := fun hq => by
    unfold hasK
    refine List.any_eq_false.2 (fun y hy => ?_)
    obtain ⟨x, hx, rfl⟩ := List.mem_map.1 hy
    obtain ⟨k, hk⟩ := List.getElem?_of_mem hx
    simp only [Bool.not_eq_true]
    refine List.any_eq_false.2 (fun z hz => ?_)
    obtain ⟨s, hs, rfl⟩ := List.mem_map.1 hz
    obtain ⟨j, hj⟩ := List.getElem?_of_mem hs
    rw [hq k j x s hk hj]
    decide
  replace h := Lib.hid h
  replace hn := Lib.hid hn
  replace hin := Lib.hid hin
  replace hyes := Lib.hid hyes
  replace hno := Lib.hid hno
  obtain ⟨R, hR⟩ : ∃ y, hasK l = y := ⟨_, rfl⟩
  rw [hR] at hyes hno ⊢
  clear hR
  go_enter Try.func22, Try.ntmps22
  go_wp2
  go_loopw [3] (fun i wr => ∃ (k : Nat), k ≤ n ∧ i = .int .i64 k ∧ Below w.heap.size w wr ∧ (∀ (k' j : Nat) x s, k' < k → l[k']? = some x → x.ss[j]? = some s → isLg s.key = false)) (fun i _ => n - (intOf i).toNat)
  case atStart => exact ⟨0, by omega, rfl, Below.refl _ _, fun k' j x s hk => by omega⟩
  case round =>
    obtain ⟨k, hk, rfl, hB, hF⟩ := hrel
    obtain ⟨W1, rfl⟩ : ∃ y, y = wr := ⟨_, rfl⟩
    replace hB := Lib.hid hB; replace hF := Lib.hid hF
    by_cases hlt : k < n
    · obtain ⟨x, hx⟩ : ∃ x, l[k]? = some x := ⟨_, List.getElem?_eq_getElem (by rw [hn.out]; exact hlt)⟩
      obtain ⟨b, o, a', c', rfl, hs, hRS, -, -, -, -⟩ := h.out k x hx
      have hm2 := hin.out x (List.mem_of_getElem? hx)
      obtain ⟨m, hm⟩ : ∃ y, x.ss.length = y := ⟨_, rfl⟩
      replace hs : Hid (Seg w b (o + k * 4) [.int .u8 x.cb, .int .u8 x.ty, .int .u8 x.am, .slice a' m c']) := Lib.hid (by rw [← hm]; exact hs)
      rw [hm] at hm2
      replace hm := Lib.hid hm; replace hx := Lib.hid hx; replace hRS := Lib.hid hRS
      have i0 : (0 : Int) ≤ k := by omega
      have i1 : (k : Int) < n := by omega
      go_wp2
      go_loopw [4] (fun i wr => ∃ (j : Nat), j ≤ m ∧ i = .int .i64 j ∧ Below w.heap.size w wr ∧ (∀ (j' : Nat) s, j' < j → x.ss[j']? = some s → isLg s.key = false)) (fun i _ => m - (intOf i).toNat)
      case atStart => exact ⟨0, by omega, rfl, hB.out, fun j' s hj => by omega⟩
      case round =>
        clear hB
        obtain ⟨j, hj, rfl, hB, hFj⟩ := hrel
        obtain ⟨W2, rfl⟩ : ∃ y, y = wr := ⟨_, rfl⟩
        replace hB := Lib.hid hB; replace hFj := Lib.hid hFj
        obtain ⟨d0, d1, d2, d3⟩ := segs4' (hs.out.after hB.out)
        by_cases hltj : j < m
        · obtain ⟨s, hsj⟩ : ∃ s, x.ss[j]? = some s := ⟨_, List.getElem?_eq_getElem (by rw [hm.out]; exact hltj)⟩
          obtain ⟨b2, o2, ia, ic, rfl, hs2, -, -, hkd, -⟩ := (hRS.out.after hB.out) j s hsj
          have hY := Lib.hid (hyes.out k j x s hx.out hsj)
          have hL := isLg_key s hkd.1
          have hFn : Hid (isLg s.key = false → ∀ (j' : Nat) s', j' < j + 1 → x.ss[j']? = some s' → isLg s'.key = false) := Lib.hid (fun hq j' s' hj' hs' => by
            by_cases e : j' = j
            · subst e; rw [hsj] at hs'; injection hs' with hs'; rw [← hs']; exact hq
            · exact hFj.out j' s' (by omega) hs')
          clear hsj
          obtain ⟨wr, kd, nm, inn⟩ := s
          simp only at hkd hL
          obtain ⟨y0, y1, y2, y3⟩ := segs4' (show Seg W2 b2 (o2 + j * 4) [.bool wr, .int .u8 kd, .string nm, .slice ia inn.length ic] from hs2)
          have C15 := Lib.hid (fun W => lgk15_c kd hkd.1 hkd.2 W)
          have C16 := Lib.hid (fun W => lgn16_c nm W)
          have j0 : (0 : Int) ≤ j := by omega
          have j1 : (j : Int) < m := by omega
          have hjn : j ≤ 1048576 := by omega
          clear hs2 hkd
          have hbb : Hid (Below w.heap.size w (W2.alloc (.cells #[.bool wr, .int .u8 kd, .string nm, .slice ia inn.length ic] 45))) := Lib.hid (hB.out.trans ((ba _ _).mono hB.out.size))
          cases wr with
          | true =>
            simp only [if_true] at hL
            rw [hL] at hY hFn
            clear hL
            obtain ⟨L, hLe⟩ : ∃ y, lgK kd = y := ⟨_, rfl⟩
            rw [hLe] at hY hFn C15
            clear hLe
            cases L with
            | true =>
              have hR := hY.out rfl
              subst hR
              go_wp2_with (go_at_call 15; (with_reducible refine (C15.out _).mono ?_); rintro e w7 ⟨rfl, rfl⟩)
              go_ret
              exact ⟨rfl, hbb.out⟩
            | false =>
              go_wp2_with (go_at_call 15; (with_reducible refine (C15.out _).mono ?_); rintro e w7 ⟨rfl, rfl⟩)
              go_roundw
              case rel => exact ⟨j + 1, by omega, by go_num, hbb.out, hFn.out trivial⟩
              case measure => simp [intOf]; omega
          | false =>
            simp only [Bool.false_eq_true, if_false] at hL
            rw [hL] at hY hFn
            clear hL
            obtain ⟨L, hLe⟩ : ∃ y, lgN nm = y := ⟨_, rfl⟩
            rw [hLe] at hY hFn C16
            clear hLe
            cases L with
            | true =>
              have hR := hY.out rfl
              subst hR
              go_wp2_with (go_at_call 16; (with_reducible refine (C16.out _).mono ?_); rintro e w7 ⟨rfl, rfl⟩)
              go_ret
              exact ⟨rfl, hbb.out⟩
            | false =>
              go_wp2_with (go_at_call 16; (with_reducible refine (C16.out _).mono ?_); rintro e w7 ⟨rfl, rfl⟩)
              go_roundw
              case rel => exact ⟨j + 1, by omega, by go_num, hbb.out, hFn.out trivial⟩
              case measure => simp [intOf]; omega
        · obtain rfl : j = m := by omega
          have hFk : Hid (∀ (k' j : Nat) x' s, k' < k + 1 → l[k']? = some x' → x'.ss[j]? = some s → isLg s.key = false) := Lib.hid (fun k' j' x' s hk' hx' hs' => by
            by_cases e : k' = k
            · subst e
              rw [hx.out] at hx'
              injection hx' with hx'
              subst hx'
              exact hFj.out j' s (by rw [← hm.out]; exact (List.getElem?_eq_some_iff.1 hs').1) hs'
            · exact hF.out k' j' x' s (by omega) hx' hs')
          go_wp2
          go_roundw
          case rel => exact ⟨k + 1, by omega, by go_num, hB.out, hFk.out⟩
          case measure => simp [intOf]; omega
    · obtain rfl : k = n := by omega
      have hR := hno.out (fun k' j x s hx hs => hF.out k' j x s (by rw [← hn.out]; exact (List.getElem?_eq_some_iff.1 hx).1) hx hs)
      subst hR
      go_wp2
      go_ret
      exact ⟨rfl, hB.out⟩
end Go.Proofs.Ytjigljpodkfchad
