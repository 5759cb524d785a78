/- FnDeadRuleManglerFreshForgets: hashes. -/
import Derived.Test.YtidmdcadejfjhaaDrg
set_option linter.unusedVariables false
set_option linter.unusedSimpArgs false
namespace Go.Proofs.Ytidmdcadejfjhaa
open Go.RowKit
set_option maxRecDepth 100000
set_option maxHeartbeats 4000000
def hc (s h : Int) : Int := bits BinOp.xor IntKind.u32 s ((h + 2654435769 + s * 64 + s / 4) % 4294967296)
theorem hash49_c (s h : Int) (w : World) : Calls Try.prog 49 #[.int .u32 s, .int .u32 h] w (fun e w' => e = .returned (.int .u32 (hc s h)) ∧ w = w') := by
  go_enter Try.func49, Try.ntmps49
  go_wp2
  go_ret
  exact ⟨rfl, rfl⟩
def bN (s : ByteArray) (j : Nat) : Int := (s.data.toList.getD j 0).toNat
theorem bN_at (s : ByteArray) (j : Nat) (h : j < s.size) : ((s[j]'h).toNat : Int) = bN s j := by
  have h' : j < s.data.toList.length := by rw [Array.length_toList]; exact h
  unfold bN
  rw [List.getD_eq_getElem?_getD, List.getElem?_eq_getElem h']
  rfl
theorem iter_below {B : Nat} {w W : World} (h : Below B w W) (hB : B ≤ W.heap.size) (s : ByteArray) (p : Nat) : Below B w (W.iter s p) := h.alloc hB _
def strN (h : Int) (s : ByteArray) : Nat → Int
  | 0 => hc h s.size
  | p + 1 => hc (strN h s p) (bN s p)
def strH (h : Int) (s : ByteArray) : Int := strN h s s.size
theorem str52_c (h : Int) (s : ByteArray) (hs : s.size ≤ 100) (hp : ∀ j, j < s.size → 0 ≤ bN s j ∧ bN s j < 128) (w : World) : Calls Try.prog 52 #[.int .u32 h, .string s] w (RetV (.int .u32 (strH h s)) w) := by
  have HP := Lib.hid hp
  clear hp
  have HE : Hid (∀ p W, p = s.size → Below w.heap.size w W → RetV (.int .u32 (strH h s)) w (.returned (.int .u32 (strN h s p))) W) := Lib.hid (fun p W e hb => by subst e; exact ⟨rfl, hb⟩)
  generalize RetV (.int .u32 (strH h s)) w = QQ at *
  have H0 : Hid (hc h s.size = strN h s 0) := Lib.hid rfl
  go_enter Try.func52, Try.ntmps52
  go_wp2_with (go_at_call 49; (with_reducible refine (hash49_c _ _ _).mono ?_); rintro e w' ⟨rfl, rfl⟩)
  rw [H0.out]
  clear H0
  go_loopw [0] (fun v wr => ∃ p : Nat, p ≤ s.size ∧ wr = w.iter s p ∧ v = .int .u32 (strN h s p)) (fun _ wr => s.size - wr.iterPos w.heap.size)
  case atStart => exact ⟨0, by omega, rfl, rfl⟩
  case round =>
    obtain ⟨p, hpl, rfl, rfl⟩ := hrel
    by_cases hlt : p < s.size
    · have hr := HP.out p hlt
      have ha : (s[p]'hlt).toNat < 128 := by have := bN_at s p hlt; omega
      have kn := fun ty => run_next_any (P := Try.prog) w s p ty hlt
      rw [decode_ascii s p hlt ha] at kn
      simp only [bN_at] at kn
      have hsn : Hid (strN h s (p + 1) = hc (strN h s p) (bN s p)) := Lib.hid rfl
      generalize strN h s p = x at *
      generalize bN s p = y at *
      clear ha
      obtain ⟨hr0, hr1⟩ := hr
      go_wp2_with (go_at_call 49; (with_reducible refine (hash49_c _ _ _).mono ?_); rintro e w' ⟨rfl, rfl⟩)
      go_roundw
      case rel => exact ⟨p + 1, by omega, rfl, by rw [hsn.out]⟩
      case measure => simp; omega
    · have kn := fun ty => run_next_end (P := Try.prog) w s p ty hlt
      have hE := HE.out p (w.iter s p) (by omega) (iter_below (Below.refl _ _) (Nat.le_refl _) _ _)
      go_wp2
      exact hE
theorem tok66_c (h : Int) (w : World) : Calls Try.prog 66 #[.int .u32 h, .slice none 0 0] w (RetV (.int .u32 (hc h 0)) w) := by
  go_enter Try.func66, Try.ntmps66
  go_wp2_with (go_at_call 49; (with_reducible refine (hash49_c _ _ _).mono ?_); rintro e w' ⟨rfl, rfl⟩)
  go_loopw [0, 14] (fun x i wr => x = .int .u32 (hc h 0) ∧ i = .int .i64 0 ∧ wr = w) (fun _ _ _ => 0)
  case atStart => exact ⟨rfl, rfl, rfl⟩
  case round =>
    obtain ⟨rfl, rfl, rfl⟩ := hrel
    go_wp2
    go_ret
    exact ⟨rfl, Below.refl _ _⟩
theorem rules51_c (h : Int) (w : World) : Calls Try.prog 51 #[.int .u32 h, .slice none 0 0] w (RetV (.int .u32 (hc h 0)) w) := by
  go_enter Try.func51, Try.ntmps51
  go_wp2_with (go_at_call 49; (with_reducible refine (hash49_c _ _ _).mono ?_); rintro e w' ⟨rfl, rfl⟩)
  go_loopw [0, 16] (fun x i wr => x = .int .u32 (hc h 0) ∧ i = .int .i64 0 ∧ wr = w) (fun _ _ _ => 0)
  case atStart => exact ⟨rfl, rfl, rfl⟩
  case round =>
    obtain ⟨rfl, rfl, rfl⟩ := hrel
    go_wp2
    go_ret
    exact ⟨rfl, Below.refl _ _⟩
def HPl : Int := hc (strH 4 hov) 0
theorem plain64_c (O : Nat → Prop) (p : Value) (w : World) (h : P0 O w 106 p) : Calls Try.prog 64 #[p] w (RetV (.int .u32 HPl) w) := by
  obtain ⟨-, B, rfl, -, hs⟩ := h
  obtain ⟨a0, a1, a2⟩ := segs3 hs
  simp only [Nat.zero_add] at a0 a1 a2
  clear hs
  have C52 := Lib.hid (str52_c 4 hov (by decide) (by decide) w)
  have HE : Hid (∀ W, Below w.heap.size w W → RetV (.int .u32 HPl) w (.returned (.int .u32 (hc (strH 4 hov) 0))) W) := Lib.hid (fun W hb => ⟨rfl, hb⟩)
  generalize RetV (.int .u32 HPl) w = QQ at *
  generalize strH 4 hov = x at *
  go_enter Try.func64, Try.ntmps64
  go_upto_region 3 with (go_at_call 52; (with_reducible refine C52.out.mono ?_); rintro e w2 ⟨rfl, b2⟩; replace b2 := Lib.hid b2; replace a1 := ac b2.out a1)
  go_wp2_with (go_at_call 66; (with_reducible refine (tok66_c _ _).mono ?_); rintro e w3 ⟨rfl, b3⟩; replace b3 := Lib.hid b3)
  exact HE.out _ (b2.out.trans (b3.out.mono b2.out.size))
def hSubs {K : Type} (hs : K → Int) (h : Int) (l : List K) : Int := l.foldl (fun h k => hc h (hs k)) h
def hComp {K : Type} (hs : K → Int) (h : Int) (l : List K) : Int := hc (hSubs hs (hc (hc h 0) ((l.length : Int) % 4294967296)) l) 0
def hCx {K : Type} (hs : K → Int) (h : Int) (l : List (List K)) : Int := l.foldl (hComp hs) (hc h ((l.length : Int) % 4294967296))
def hCS {K : Type} (hs : K → Int) (h : Int) (l : List (List (List K))) : Int := l.foldl (hCx hs) h
def HHa (K : Type) (hs : K → Int) (G : (Nat → Prop) → World → SubR K → Prop) : Prop := ∀ (O : Nat → Prop) (s : SubR K) (w : World), G O w s → ∃ B, s.p = .pointer (some ⟨B, 0, none⟩) ∧ ((s.t = 106 ∧ Calls Try.prog 64 #[s.p] w (RetV (.int .u32 (hs s.k)) w)) ∨ (s.t = 97 ∧ Calls Try.prog 59 #[s.p] w (RetV (.int .u32 (hs s.k)) w)))
theorem mh106 (a : Addr) (W : World) : (method 306 106 (.pointer (some a)) "Hash").run Try.prog W = .ok (64, .pointer (some a)) W := by kernel_rfl
theorem mh97 (a : Addr) (W : World) : (method 306 97 (.pointer (some a)) "Hash").run Try.prog W = .ok (59, .pointer (some a)) W := by kernel_rfl
theorem ftake {T A : Type} {f : A → T → A} {l : List T} {i : Nat} {x : T} {a : A} (h : l[i]? = some x) : (l.take (i + 1)).foldl f a = f ((l.take i).foldl f a) x := by
  rw [List.take_add_one, h, List.foldl_append]; rfl
theorem ffull {T A : Type} {f : A → T → A} {l : List T} {i : Nat} {a : A} (h : l.length = i) : (l.take i).foldl f a = l.foldl f a := by
  rw [List.take_of_length_le (by omega)]
theorem cs50_c {K : Type} {hs : K → Int} {G : (Nat → Prop) → World → SubR K → Prop} (keep : KeepG G) (HH : HHa K hs G) (O : Nat → Prop) (a : Option Addr) (c : Nat) (ls : List (CxR K)) (n : Nat) (hn : ls.length = n) (h0 : Int) (w : World) (h : RCx G O w a ls) (hl : n ≤ maxLen) : Calls Try.prog 50 #[.int .u32 h0, .slice a n c] w (RetV (.int .u32 (hCS hs h0 (ls.map CxR.key))) w) := by
  have HT : Hid (∀ k W, k = n → Below w.heap.size w W → RetV (.int .u32 (hCS hs h0 (ls.map CxR.key))) w (.returned (.int .u32 ((ls.take k).foldl (fun h r => hCx hs h r.key) h0))) W) := Lib.hid (fun k W e hb => ⟨by subst e; rw [ffull hn, hCS, List.foldl_map], hb⟩)
  generalize RetV (.int .u32 (hCS hs h0 (ls.map CxR.key))) w = QQ at *
  have hG := Lib.hid h
  unfold maxLen at hl
  clear h
  replace hn := Lib.hid hn
  go_enter Try.func50, Try.ntmps50
  go_wp2
  go_loopw [0, 13] (fun x i wr => ∃ k : Nat, k ≤ n ∧ i = .int .i64 k ∧ x = .int .u32 ((ls.take k).foldl (fun h r => hCx hs h r.key) h0) ∧ Below w.heap.size w wr) (fun _ i _ => n - (intOf i).toNat)
  case atStart => exact ⟨0, by omega, rfl, by simp, Below.refl _ _⟩
  case round =>
    obtain ⟨k, hk, rfl, rfl, hB⟩ := hrel
    obtain ⟨Wo, rfl⟩ : ∃ y, y = wr := ⟨_, rfl⟩
    replace hB := Lib.hid hB
    by_cases hlt : k < n
    · obtain ⟨cx, hcx⟩ : ∃ x, ls[k]? = some x := ⟨_, List.getElem?_eq_getElem (by rw [hn.out]; exact hlt)⟩
      obtain ⟨g, rfl, -, d0, hg⟩ := (RCx.keep keep hG.out (Kc.of_below hB.out) (fun _ _ q => q)) k cx hcx
      have hst := Lib.hid (ftake (f := fun h r => hCx hs h r.key) (a := h0) hcx)
      clear hcx
      generalize (ls.take k).foldl (fun h r => hCx hs h r.key) h0 = x0 at *
      have i0 : (0 : Int) ≤ k := by omega
      have i1 : (k : Int) < n := by omega
      obtain ⟨xa, xc, lc⟩ := cx
      obtain ⟨hRC, hm1⟩ := hg
      simp only at hRC hm1 d0
      obtain ⟨m, hm⟩ : ∃ m, lc.length = m := ⟨_, rfl⟩
      rw [hm] at d0 hm1
      unfold maxLen at hm1
      have hxk : Hid (∀ x, x = lc.foldl (fun h r => hComp hs h r.key) (hc x0 ((m : Int) % 4294967296)) → x = hCx hs x0 (CxR.key ⟨xa, xc, lc⟩)) := Lib.hid (fun x e => by rw [e, hCx, CxR.key, List.foldl_map, List.length_map, hm])
      replace hm := Lib.hid hm
      replace hRC := Lib.hid hRC
      go_upto_region 4 with fail
      refine wp_gen (fun W1 hW => ?_)
      have b1 : Hid (Below Wo.heap.size Wo W1) := Lib.hid (by rw [hW]; exact ba _ _)
      have n0 : W1.cell? ⟨Wo.heap.size, 0, none⟩ = some (.slice xa m xc) := by rw [hW]; simp [go_sem]
      clear hW d0
      replace hRC := Lib.hid (RCp.keep keep hRC.out (Kc.of_below b1.out) (fun _ _ q => q))
      have bw1 := Lib.hid (hB.out.trans (b1.out.mono hB.out.size))
      go_wp2_with (go_at_call 49; (with_reducible refine (hash49_c _ _ _).mono ?_); rintro e w' ⟨rfl, rfl⟩)
      go_loopw [0, 26] (fun x i wr => ∃ k : Nat, k ≤ m ∧ i = .int .i64 k ∧ x = .int .u32 ((lc.take k).foldl (fun h r => hComp hs h r.key) (hc x0 ((m : Int) % 4294967296))) ∧ Below W1.heap.size W1 wr) (fun _ i _ => m - (intOf i).toNat)
      case atStart => exact ⟨0, by omega, rfl, by simp, Below.refl _ _⟩
      case round =>
        obtain ⟨j, hj, rfl, rfl, hBj⟩ := hrel
        obtain ⟨W2, rfl⟩ : ∃ y, y = wr := ⟨_, rfl⟩
        replace hBj := Lib.hid hBj
        by_cases hltj : j < m
        · obtain ⟨cp, hcp⟩ : ∃ x, lc[j]? = some x := ⟨_, List.getElem?_eq_getElem (by rw [hm.out]; exact hltj)⟩
          obtain ⟨g2, rfl, -, hsg, hg2⟩ := (RCp.keep keep hRC.out (Kc.of_below hBj.out) (fun _ _ q => q)) j cp hcp
          have hst2 := Lib.hid (ftake (f := fun h r => hComp hs h r.key) (a := hc x0 ((m : Int) % 4294967296)) hcp)
          clear hcp
          generalize (lc.take j).foldl (fun h r => hComp hs h r.key) (hc x0 ((m : Int) % 4294967296)) = x1 at *
          have j0 : (0 : Int) ≤ j := by omega
          have j1 : (j : Int) < m := by omega
          obtain ⟨pa, pc, ss⟩ := cp
          obtain ⟨hRS, hm2⟩ := hg2
          simp only at hRS hm2
          obtain ⟨d0, d1, d2, d3, d4, d5⟩ := segs6 hsg
          obtain ⟨l, hll⟩ : ∃ m, ss.length = m := ⟨_, rfl⟩
          simp only [hll] at d1 hm2
          unfold maxLen at hm2
          have hpk : Hid (∀ x, x = hc (ss.foldl (fun h r => hc h (hs r.k)) (hc (hc x1 0) ((l : Int) % 4294967296))) 0 → x = hComp hs x1 (CpR.key ⟨pa, pc, ss⟩)) := Lib.hid (fun x e => by rw [e, hComp, hSubs, CpR.key, List.foldl_map, List.length_map, hll])
          replace hll := Lib.hid hll
          replace hRS := Lib.hid hRS
          clear hsg
          go_upto_region 8 with fail
          refine wp_gen (fun W3 hW => ?_)
          have b3 : Hid (Below W2.heap.size W2 W3) := Lib.hid (by rw [hW]; exact ba _ _)
          have sv := Seg.new W2 [.pointer none, .slice pa l pc, .slice none 0 0, .int .i32 0, .int .u8 0, .bool false] 84
          have sv1 : Seg W3 W2.heap.size 0 [.pointer none, .slice pa l pc, .slice none 0 0, .int .i32 0, .int .u8 0, .bool false] := by rw [hW]; exact sv
          clear hW sv d0 d1 d2 d3 d4 d5
          obtain ⟨d0, d1, d2, d3, d4, d5⟩ := segs6 sv1
          simp only [Nat.zero_add] at d0 d1 d2 d3 d4 d5
          clear sv1
          replace hRS := Lib.hid (RSub.keep keep hRS.out (Kc.of_below b3.out) (fun _ _ q => q))
          have bw3 := Lib.hid (hBj.out.trans (b3.out.mono hBj.out.size))
          go_wp2_with (go_at_call 49; (with_reducible refine (hash49_c _ _ _).mono ?_); rintro e w' ⟨rfl, rfl⟩)
          go_loopw [0, 52] (fun x i wr => ∃ k : Nat, k ≤ l ∧ i = .int .i64 k ∧ x = .int .u32 ((ss.take k).foldl (fun h r => hc h (hs r.k)) (hc (hc x1 0) ((l : Int) % 4294967296))) ∧ Below W3.heap.size W3 wr) (fun _ i _ => l - (intOf i).toNat)
          case atStart => exact ⟨0, by omega, rfl, by simp, Below.refl _ _⟩
          case round =>
            obtain ⟨i, hi, rfl, rfl, hBi⟩ := hrel
            obtain ⟨W4, rfl⟩ : ∃ y, y = wr := ⟨_, rfl⟩
            replace hBi := Lib.hid hBi
            by_cases hlti : i < l
            · obtain ⟨s, hsq⟩ : ∃ x, ss[i]? = some x := ⟨_, List.getElem?_eq_getElem (by rw [hll.out]; exact hlti)⟩
              obtain ⟨g3, rfl, -, hs3, hg3⟩ := (RSub.keep keep hRS.out (Kc.of_below hBi.out) (fun _ _ q => q)) i s hsq
              have hst3 := Lib.hid (ftake (f := fun h r => hc h (hs r.k)) (a := (hc (hc x1 0) ((l : Int) % 4294967296))) hsq)
              clear hsq
              generalize (ss.take i).foldl (fun h r => hc h (hs r.k)) (hc (hc x1 0) ((l : Int) % 4294967296)) = x2 at *
              obtain ⟨st, sp, sk⟩ := s
              obtain ⟨e0, e1, e2⟩ := segs3 hs3
              replace hg3 := Lib.hid hg3
              simp only at hst3
              clear hs3
              have q0 : (0 : Int) ≤ i := by omega
              have q1 : (i : Int) < l := by omega
              go_upto_region 15 with fail
              refine wp_gen (fun W5 hW => ?_)
              have b5 : Hid (Below W4.heap.size W4 W5) := Lib.hid (by rw [hW]; exact ba _ _)
              have n1 : W5.cell? ⟨W4.heap.size, 0, none⟩ = some (.iface st sp) := by rw [hW]; simp [go_sem]
              clear hW e0 e1 e2
              have hg5 := keep _ _ _ _ _ hg3.out (Kc.of_below b5.out) (fun _ _ q => q)
              have bm5 := Lib.hid (hBi.out.trans (b5.out.mono hBi.out.size))
              obtain ⟨B, hp, hcc⟩ := HH O ⟨st, sp, sk⟩ W5 hg5
              simp only at hp hcc
              clear hg5 hg3
              subst hp
              rcases hcc with ⟨ht, hcc⟩ | ⟨ht, hcc⟩
              · subst ht
                have M := mh106
                have CE := Lib.hid hcc
                clear hcc
                go_wp2_with (first | (go_at_call 64; (with_reducible refine CE.out.mono ?_); rintro e w6 ⟨rfl, b6⟩; replace b6 := Lib.hid b6) | (go_at_call 49; (with_reducible refine (hash49_c _ _ _).mono ?_); rintro e w' ⟨rfl, rfl⟩))
                exact ⟨⟨i + 1, by omega, by go_num, by rw [hst3.out], bm5.out.trans (b6.out.mono bm5.out.size)⟩, by simp [intOf]; omega⟩
              · subst ht
                have M := mh97
                have CE := Lib.hid hcc
                clear hcc
                go_wp2_with (first | (go_at_call 59; (with_reducible refine CE.out.mono ?_); rintro e w6 ⟨rfl, b6⟩; replace b6 := Lib.hid b6) | (go_at_call 49; (with_reducible refine (hash49_c _ _ _).mono ?_); rintro e w' ⟨rfl, rfl⟩))
                exact ⟨⟨i + 1, by omega, by go_num, by rw [hst3.out], bm5.out.trans (b6.out.mono bm5.out.size)⟩, by simp [intOf]; omega⟩
            · obtain rfl : i = l := by omega
              have hfin := Lib.hid (hpk.out _ rfl)
              rw [ffull hll.out]
              replace d4 := ac hBi.out d4
              have bm4 := Lib.hid (bw3.out.trans (hBi.out.mono bw3.out.size))
              obtain ⟨v6, hv6⟩ : ∃ y : Int, (i : Int) = y := ⟨_, rfl⟩
              rw [hv6] at hfin ⊢
              have hv7 : ¬ v6 < v6 := by omega
              clear hv6
              go_wp2_with (go_at_call 49; (with_reducible refine (hash49_c _ _ _).mono ?_); rintro e w' ⟨rfl, rfl⟩)
              exact ⟨⟨j + 1, by omega, by go_num, by rw [hst2.out, ← hfin.out], bm4.out⟩, by simp [intOf]; omega⟩
        · obtain rfl : j = m := by omega
          have hfin := Lib.hid (hxk.out _ rfl)
          rw [ffull hm.out]
          have bm4 := Lib.hid (bw1.out.trans (hBj.out.mono bw1.out.size))
          obtain ⟨v6, hv6⟩ : ∃ y : Int, (j : Int) = y := ⟨_, rfl⟩
          rw [hv6] at hfin ⊢
          have hv7 : ¬ v6 < v6 := by omega
          clear hv6
          go_wp2
          exact ⟨⟨k + 1, by omega, by go_num, by rw [hst.out, ← hfin.out], bm4.out⟩, by simp [intOf]; omega⟩
    · obtain rfl : k = n := by omega
      have hT := HT.out k Wo rfl hB.out
      go_wp2
      exact hT
theorem hh0 : HHa Unit (fun _ => HPl) G0 := fun O s w h => by
  obtain ⟨st, sp, sk⟩ := s
  obtain ⟨h1, B, h2, h3⟩ := h
  simp only at h1 h2 h3
  subst h1 h2
  exact ⟨B, rfl, .inl ⟨rfl, plain64_c O _ w ⟨rfl, B, rfl, h3⟩⟩⟩
def hs1 : K1 → Int
  | none => HPl
  | some (k, b) => hCS (fun _ => HPl) (strH (strH (hc 5 k) ⟨#[]⟩) ⟨#[]⟩) (inK b)
theorem list59_c (O : Nat → Prop) (B k : Nat) (b : Bool) (a : Option Addr) (c : Nat) (ls : List (CxR Unit)) (n : Nat) (hn : ls.length = n) (w : World) (hs : Seg w B 0 [.slice a n c, .string ⟨#[]⟩, .string ⟨#[]⟩, .int .u8 k]) (h : RCx G0 O w a ls) (hl : n ≤ maxLen) (hk : k ≤ 255) (hb : ls.map CxR.key = inK b) : Calls Try.prog 59 #[.pointer (some ⟨B, 0, none⟩)] w (RetV (.int .u32 (hs1 (some (k, b)))) w) := by
  have a0 := hs 0 _ rfl; have a1 := hs 1 _ rfl; have a2 := hs 2 _ rfl; have a3 := hs 3 _ rfl
  simp only [Nat.zero_add] at a0 a1 a2 a3
  clear hs
  have C52 := Lib.hid (fun x w => str52_c x ⟨#[]⟩ (by decide) (by decide) w)
  have C50 := Lib.hid (fun x w' (hb : Below w.heap.size w w') => cs50_c G0.keep hh0 O a c ls n hn x w' (h.keep G0.keep (Kc.of_below hb) (fun _ _ q => q)) hl)
  rw [hb] at C50
  have HE : Hid (∀ x W, x = hs1 (some (k, b)) → Below w.heap.size w W → RetV (.int .u32 (hs1 (some (k, b)))) w (.returned (.int .u32 x)) W) := Lib.hid (fun x W e hb => ⟨by rw [e], hb⟩)
  have HS : Hid (hCS (fun _ => HPl) (strH (strH (hc 5 k) ⟨#[]⟩) ⟨#[]⟩) (inK b) = hs1 (some (k, b))) := Lib.hid rfl
  generalize RetV (.int .u32 (hs1 (some (k, b)))) w = QQ at *
  generalize hs1 (some (k, b)) = z at *
  clear h hb hl hn
  generalize inK b = ik at *
  go_enter Try.func59, Try.ntmps59
  go_upto_region 3 with (go_at_call 49; (with_reducible refine (hash49_c _ _ _).mono ?_); rintro e w' ⟨rfl, rfl⟩)
  generalize hc 5 k = x0 at *
  go_upto_region 4 with (go_at_call 52; (with_reducible refine (C52.out _ _).mono ?_); rintro e w2 ⟨rfl, b2⟩; replace b2 := Lib.hid b2; replace a2 := ac b2.out a2; replace a0 := ac b2.out a0; clear a1 a3)
  generalize strH x0 ⟨#[]⟩ = x1 at *
  go_upto_region 5 with (go_at_call 52; (with_reducible refine (C52.out _ _).mono ?_); rintro e w3 ⟨rfl, b3⟩; replace b3 := Lib.hid b3; replace a0 := ac b3.out a0; have b03 := Lib.hid (b2.out.trans (b3.out.mono b2.out.size)); clear a2)
  generalize strH x1 ⟨#[]⟩ = x2 at *
  go_wp2_with (go_at_call 50; (with_reducible refine (C50.out _ _ b03.out).mono ?_); rintro e w4 ⟨rfl, b4⟩; replace b4 := Lib.hid b4)
  exact HE.out _ _ HS.out (b03.out.trans (b4.out.mono b03.out.size))
theorem hh1 : HHa K1 hs1 G1 := fun O s w h => by
  obtain ⟨st, sp, sk⟩ := s
  rcases h with ⟨h1, h2, B, h3, h4⟩ | ⟨k, b, B, a, c, ls, h1, h2, h3, hn, hs, hr, hl, hk, hk2⟩
  · simp only at h1 h2 h3
    subst h1 h2 h3
    exact ⟨B, rfl, .inl ⟨rfl, plain64_c O _ w ⟨rfl, B, rfl, h4⟩⟩⟩
  · simp only at h1 h2 h3
    subst h1 h2 h3
    exact ⟨B, rfl, .inr ⟨rfl, list59_c O B k b a c ls _ rfl w hs hr hl hk2 hk⟩⟩
def hRule (key : List (List (List K1))) : Int := hc (hCS hs1 (hc 5 ((key.length : Int) % 4294967296)) key) 0
theorem rule46_c (O : Nat → Prop) (r : RlR) (w : World) (h : GRl O w r) : Calls Try.prog 46 #[.pointer (some ⟨r.B, 0, none⟩)] w (RetV (.tuple #[.int .u32 (hRule r.key), .bool true]) w) := by
  obtain ⟨B, lc, a, c, ls⟩ := r
  obtain ⟨-, hs, hr, hl⟩ := h
  simp only at hs hr hl
  obtain ⟨a0, a1, a2⟩ := segs3 hs
  simp only [Nat.zero_add] at a0 a1 a2
  clear hs
  obtain ⟨n, hn⟩ : ∃ n, ls.length = n := ⟨_, rfl⟩
  rw [hn] at a0 hl
  have C50 := Lib.hid (fun x w' (hb : Below w.heap.size w w') => cs50_c G1.keep hh1 O a c ls n hn x w' (hr.keep G1.keep (Kc.of_below hb) (fun _ _ q => q)) hl)
  have HS : Hid (hc (hCS hs1 (hc 5 ((n : Int) % 4294967296)) (ls.map CxR.key)) 0 = hRule (ls.map CxR.key)) := Lib.hid (by rw [hRule, List.length_map, hn])
  show Calls Try.prog 46 #[.pointer (some ⟨B, 0, none⟩)] w (RetV (.tuple #[.int .u32 (hRule (ls.map CxR.key)), .bool true]) w)
  unfold maxLen at hl
  clear hr hn
  generalize hRule (ls.map CxR.key) = z at *
  generalize ls.map CxR.key = ik at *
  go_enter Try.func46, Try.ntmps46
  go_upto_region 3 with (go_at_call 49; (with_reducible refine (hash49_c _ _ _).mono ?_); rintro e w' ⟨rfl, rfl⟩)
  generalize hc 5 ((n : Int) % 4294967296) = x0 at *
  go_upto_region 4 with (go_at_call 50; (with_reducible refine (C50.out _ _ (Below.refl _ _)).mono ?_); rintro e w2 ⟨rfl, b2⟩; replace b2 := Lib.hid b2; replace a1 := ac b2.out a1; clear a0 a2)
  go_wp2_with (go_at_call 51; (with_reducible refine (rules51_c _ _).mono ?_); rintro e w3 ⟨rfl, b3⟩; replace b3 := Lib.hid b3)
  exact bodyPost_ret (v := .tuple #[.int .u32 (hc (hCS hs1 x0 ik) 0), .bool true]) (by simp [results, Try.results46, go_sem]) rfl ⟨by rw [HS.out], b2.out.trans (b3.out.mono b2.out.size)⟩
end Go.Proofs.Ytidmdcadejfjhaa
