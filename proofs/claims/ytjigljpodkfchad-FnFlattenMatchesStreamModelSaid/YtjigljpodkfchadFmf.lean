/- FnFlattenMatchesStreamModel: the model, flattening. -/
import Derived.Test.YtjigljpodkfchadFmj
set_option linter.unusedVariables false
set_option linter.unusedSimpArgs false
namespace Go.Proofs.Ytjigljpodkfchad
open Go.RowKit
set_option maxRecDepth 100000
set_option maxHeartbeats 40000000
theorem its_first {l : List Zc} {it : It} (h : (itsOf l)[0]? = some it) : it.tg = 66 := by
  cases l with
  | nil => simp [itsOf] at h
  | cons c r =>
    simp [itsOf, itC] at h
    subst h
    rfl
theorem map_le {α β : Type} (f : α → β) (l : List α) (k : Nat) : ((l.take k).map f).length ≤ l.length := by simp; omega
def SzS3 (s : Zs) : Prop := SzI2 s ∧ (∀ y ∈ s.inn, y.nm.length ≤ 1048576 ∧ ∀ nm ∈ y.nm, nm.size ≤ 1048576)
def SzC3 (c : Zc) : Prop := c.ss.length ≤ 1048576 ∧ ∀ s ∈ c.ss, SzS3 s
def MdQ (gs : List Gp) (w : World) (e : Ending) (w' : World) : Prop := (keepG gs = [] ∧ MdP [⟨0, ⟨#[]⟩, 1, [], true⟩] true w e w') ∨ (keepG gs ≠ [] ∧ MdP (keepG gs) false w e w')
def U359 (u : Nat → Value) : Array Value := #[u 0, u 1, u 2, u 3, u 4, u 5, u 6, u 7, u 8, u 9, u 10, u 11, u 12, u 13, u 14, u 15, u 16, u 17, u 18, u 19, u 20, u 21, u 22, u 23, u 24, u 25, u 26, u 27, u 28, u 29, u 30, u 31, u 32, u 33, u 34, u 35, u 36, u 37, u 38, u 39, u 40, u 41, u 42, u 43, u 44, u 45, u 46, u 47, u 48, u 49, u 50, u 51, u 52, u 53, u 54, u 55, u 56, u 57, u 58, u 59, u 60, u 61, u 62, u 63, u 64, u 65, u 66, u 67, u 68, u 69, u 70, u 71, u 72, u 73, u 74, u 75, u 76, u 77, u 78, u 79, u 80, u 81, u 82, u 83, u 84, u 85, u 86, u 87, u 88, u 89, u 90, u 91, u 92, u 93, u 94, u 95, u 96, u 97, u 98, u 99, u 100, u 101, u 102, u 103, u 104, u 105, u 106, u 107, u 108, u 109, u 110, u 111, u 112, u 113, u 114, u 115, u 116, u 117, u 118, u 119, u 120, u 121, u 122, u 123, u 124, u 125, u 126, u 127, u 128, u 129, u 130, u 131, u 132, u 133, u 134, u 135, u 136, u 137, u 138, u 139, u 140, u 141, u 142, u 143, u 144, u 145, u 146, u 147, u 148, u 149, u 150, u 151, u 152, u 153, u 154, u 155, u 156, u 157, u 158, u 159, u 160, u 161, u 162, u 163, u 164, u 165, u 166, u 167, u 168, u 169, u 170, u 171, u 172, u 173, u 174, u 175, u 176, u 177, u 178, u 179, u 180, u 181, u 182, u 183, u 184, u 185, u 186, u 187, u 188, u 189, u 190, u 191, u 192, u 193, u 194, u 195, u 196, u 197, u 198, u 199, u 200, u 201, u 202, u 203, u 204, u 205, u 206, u 207, u 208, u 209, u 210, u 211, u 212, u 213, u 214, u 215, u 216, u 217, u 218, u 219, u 220, u 221, u 222, u 223, u 224, u 225, u 226, u 227, u 228, u 229, u 230, u 231, u 232, u 233, u 234, u 235, u 236, u 237, u 238, u 239, u 240, u 241, u 242, u 243, u 244, u 245, u 246, u 247, u 248, u 249, u 250, u 251, u 252, u 253, u 254, u 255, u 256, u 257, u 258, u 259, u 260, u 261, u 262, u 263, u 264, u 265, u 266, u 267, u 268, u 269, u 270, u 271, u 272, u 273, u 274, u 275, u 276, u 277, u 278, u 279, u 280, u 281, u 282, u 283, u 284, u 285, u 286, u 287, u 288, u 289, u 290, u 291, u 292, u 293, u 294, u 295, u 296, u 297, u 298, u 299, u 300, u 301, u 302, u 303, u 304, u 305, u 306, u 307, u 308, u 309, u 310, u 311, u 312, u 313, u 314, u 315, u 316, u 317, u 318, u 319, u 320, u 321, u 322, u 323, u 324, u 325, u 326, u 327, u 328, u 329, u 330, u 331, u 332, u 333, u 334, u 335, u 336, u 337, u 338, u 339, u 340, u 341, u 342, u 343, u 344, u 345, u 346, u 347, u 348, u 349, u 350, u 351, u 352, u 353, u 354, u 355, u 356, u 357, u 358]
theorem U359_eq (u : Nat → Value) : U359 u = ((List.range 359).map u).toArray := by kernel_rfl
theorem tm359 (l : List Value) (h : l.length = 359) : l.toArray = U359 (fun i => l.getD i undef) := by
  have e : l = (List.range 359).map (fun i => l.getD i undef) := by
    refine List.ext_getElem (by simp [h]) (fun i h1 h2 => ?_)
    simp [List.getD, h1]
  rw [U359_eq, ← e]
theorem am359 (l : List Value) (h : l.length = 359) : IsA ⟨l.toArray, []⟩ (U359 (fun i => l.getD i undef)) := congrArg (Act.mk · []) (tm359 l h)
theorem num1 (k : Nat) : Value.int .i64 ((k : Int) + 1) = .int .i64 ((k + 1 : Nat) : Int) := rfl
def R3 (l : List Zc) (n : Nat) (w : World) (v i : Value) (wr : World) : Prop := ∃ (k nI : Nat) (aI : Option Addr) (cI : Nat), k ≤ n ∧ i = .int .i64 k ∧ v = .slice aI nI cI ∧ nI = (itsOf (l.take k)).length ∧ ItB (.slice aI nI cI) (itsOf (l.take k)) w wr
def R4 (L5 : List It) (xss : List Zs) (m : Nat) (w : World) (C13 : Nat) (B13 : Array Value) (v i : Value) (wr : World) : Prop := ∃ (j n6 : Nat) (a6 : Option Addr) (c6 : Nat), j ≤ m ∧ i = .int .i64 j ∧ v = .slice a6 n6 c6 ∧ n6 = (L5 ++ ((xss.take j).map Zs.key).flatMap itS).length ∧ ItB (.slice a6 n6 c6) (L5 ++ ((xss.take j).map Zs.key).flatMap itS) w wr ∧ NewAt wr C13 B13 42
def R5 (L6 : List It) (inn : List Zi) (p : Nat) (w : World) (C13 C15b : Nat) (B13 B15 : Array Value) (v i : Value) (wr : World) : Prop := ∃ (k2 n7 : Nat) (a7 : Option Addr) (c7 : Nat), k2 ≤ p ∧ i = .int .i64 k2 ∧ v = .slice a7 n7 c7 ∧ n7 = (L6 ++ itL ((inn.take k2).map Zi.key)).length ∧ ItB (.slice a7 n7 c7) (L6 ++ itL ((inn.take k2).map Zi.key)) w wr ∧ NewAt wr C13 B13 42 ∧ NewAt wr C15b B15 45
def R6 (L10 : List It) (ynm : List ByteArray) (r : Nat) (w : World) (C13 C15b C17 : Nat) (B13 B15 B17 : Array Value) (v i : Value) (wr : World) : Prop := ∃ (q n11 : Nat) (a11 : Option Addr) (c11 : Nat), q ≤ r ∧ i = .int .i64 q ∧ v = .slice a11 n11 c11 ∧ n11 = (L10 ++ (ynm.take q).map (fun s => iS (dotN s))).length ∧ ItB (.slice a11 n11 c11) (L10 ++ (ynm.take q).map (fun s => iS (dotN s))) w wr ∧ NewAt wr C13 B13 42 ∧ NewAt wr C15b B15 45 ∧ NewAt wr C17 B17 48
def R7 (l : List Zc) (nI : Nat) (w : World) (vI v i : Value) (wr : World) : Prop := ∃ (q gn : Nat) (ga : Option Addr) (gc : Nat) (rs : List GR), q ≤ nI ∧ i = .int .i64 q ∧ v = .slice ga gn gc ∧ gn = (((itsOf l).take q).foldl gsL []).length ∧ Grs wr w.heap.size (.slice ga gn gc) rs (((itsOf l).take q).foldl gsL []) (255 * q) ∧ ItB vI (itsOf l) w wr ∧ (0 < q → ((itsOf l).take q).foldl gsL [] ≠ [])
def R8 (gs : List Gp) (rs : List GR) (gn : Nat) (w : World) (vG v i : Value) (wr : World) : Prop := ∃ (p kn : Nat) (ka : Option Addr) (kc : Nat) (rk : List GR), p ≤ gn ∧ i = .int .i64 p ∧ v = .slice ka kn kc ∧ kn = (keepG (gs.take p)).length ∧ GsR wr w.heap.size (.slice ka kn kc) rk (keepG (gs.take p)) ∧ GsR wr w.heap.size vG rs gs ∧ (∀ b, Ob (.slice ka kn kc) b → ¬ Ob vG b) ∧ Below w.heap.size w wr
theorem mod11b_c (l : List Zc) (n : Nat) (hn : l.length = n) (hn2 : n ≤ 1048576) (hin : ∀ x ∈ l, SzC3 x) (hhas : hasK l = true) (hLen : (itsOf l).length ≤ 20000000) (hGl : ((itsOf l).foldl gsL []).length ≤ 1048576) (hIt : ∀ it ∈ itsOf l, it.n ≤ 255 ∧ (it.tg = 84 → it.s.size ≤ 1048576)) (a : Option Addr) (cc : Nat) (w : World) (h : RC w a l) : Calls Try.prog 11 #[.slice a n cc, .bool true] w (MdQ ((itsOf l).foldl gsL []) w) := by
  have C22 := Lib.hid (has22_c l n hn hn2 (fun x hx => (hin x hx).1) a cc w h)
  rw [hhas] at C22
  replace hn := Lib.hid hn; replace hin := Lib.hid hin; replace h := Lib.hid h; replace hLen := Lib.hid hLen; replace hGl := Lib.hid hGl; replace hIt := Lib.hid hIt
  go_enter Try.func11, Try.ntmps11
  go_upto_region 17 with (go_at_call 22; (with_reducible refine C22.out.mono ?_); rintro e W ⟨rfl, bb⟩; replace bb := Lib.hid bb)
  clear C22
  have hI0 : Hid (ItB (.slice none 0 0) [] w W) := Lib.hid ⟨World.ownsRow_nil _ _ _ _, bb.out⟩
  clear bb
  go_wp2
  refine wp_loop (fun az wr => ∃ u : Nat → Value, IsA az (U359 u) ∧ u 0 = .slice a n cc ∧ R3 l n w (u 11) (u 12) wr) (fun az wr => n - (intOf (az.tmps.getD 12 undef)).toNat) ?_ ?_
  · refine ⟨_, am359 _ rfl, ?_⟩
    exact ⟨rfl, 0, 0, none, 0, by omega, rfl, rfl, rfl, hI0.out⟩
  · rintro ac wr ⟨u, hA, l0, hrel⟩
    obtain rfl : ac = ⟨U359 u, []⟩ := hA
    clear hI0
    obtain ⟨k, nI, aI, cI, hk, ei, ev, hnI, hI⟩ := hrel
    rw [show (⟨U359 u, []⟩ : Act) = ⟨#[.slice a n cc, u 1, u 2, u 3, u 4, u 5, u 6, u 7, u 8, u 9, u 10, .slice aI nI cI, .int .i64 (k : Nat), u 13, u 14, u 15, u 16, u 17, u 18, u 19, u 20, u 21, u 22, u 23, u 24, u 25, u 26, u 27, u 28, u 29, u 30, u 31, u 32, u 33, u 34, u 35, u 36, u 37, u 38, u 39, u 40, u 41, u 42, u 43, u 44, u 45, u 46, u 47, u 48, u 49, u 50, u 51, u 52, u 53, u 54, u 55, u 56, u 57, u 58, u 59, u 60, u 61, u 62, u 63, u 64, u 65, u 66, u 67, u 68, u 69, u 70, u 71, u 72, u 73, u 74, u 75, u 76, u 77, u 78, u 79, u 80, u 81, u 82, u 83, u 84, u 85, u 86, u 87, u 88, u 89, u 90, u 91, u 92, u 93, u 94, u 95, u 96, u 97, u 98, u 99, u 100, u 101, u 102, u 103, u 104, u 105, u 106, u 107, u 108, u 109, u 110, u 111, u 112, u 113, u 114, u 115, u 116, u 117, u 118, u 119, u 120, u 121, u 122, u 123, u 124, u 125, u 126, u 127, u 128, u 129, u 130, u 131, u 132, u 133, u 134, u 135, u 136, u 137, u 138, u 139, u 140, u 141, u 142, u 143, u 144, u 145, u 146, u 147, u 148, u 149, u 150, u 151, u 152, u 153, u 154, u 155, u 156, u 157, u 158, u 159, u 160, u 161, u 162, u 163, u 164, u 165, u 166, u 167, u 168, u 169, u 170, u 171, u 172, u 173, u 174, u 175, u 176, u 177, u 178, u 179, u 180, u 181, u 182, u 183, u 184, u 185, u 186, u 187, u 188, u 189, u 190, u 191, u 192, u 193, u 194, u 195, u 196, u 197, u 198, u 199, u 200, u 201, u 202, u 203, u 204, u 205, u 206, u 207, u 208, u 209, u 210, u 211, u 212, u 213, u 214, u 215, u 216, u 217, u 218, u 219, u 220, u 221, u 222, u 223, u 224, u 225, u 226, u 227, u 228, u 229, u 230, u 231, u 232, u 233, u 234, u 235, u 236, u 237, u 238, u 239, u 240, u 241, u 242, u 243, u 244, u 245, u 246, u 247, u 248, u 249, u 250, u 251, u 252, u 253, u 254, u 255, u 256, u 257, u 258, u 259, u 260, u 261, u 262, u 263, u 264, u 265, u 266, u 267, u 268, u 269, u 270, u 271, u 272, u 273, u 274, u 275, u 276, u 277, u 278, u 279, u 280, u 281, u 282, u 283, u 284, u 285, u 286, u 287, u 288, u 289, u 290, u 291, u 292, u 293, u 294, u 295, u 296, u 297, u 298, u 299, u 300, u 301, u 302, u 303, u 304, u 305, u 306, u 307, u 308, u 309, u 310, u 311, u 312, u 313, u 314, u 315, u 316, u 317, u 318, u 319, u 320, u 321, u 322, u 323, u 324, u 325, u 326, u 327, u 328, u 329, u 330, u 331, u 332, u 333, u 334, u 335, u 336, u 337, u 338, u 339, u 340, u 341, u 342, u 343, u 344, u 345, u 346, u 347, u 348, u 349, u 350, u 351, u 352, u 353, u 354, u 355, u 356, u 357, u 358], []⟩ by simp only [U359, l0, ei, ev]]
    clear l0 ei ev
    obtain ⟨W1, rfl⟩ : ∃ y, y = wr := ⟨_, rfl⟩
    obtain ⟨L1, hL1⟩ : ∃ y, itsOf (l.take k) = y := ⟨_, rfl⟩
    rw [hL1] at hnI hI
    replace hnI := Lib.hid hnI; replace hI := Lib.hid hI; replace hL1 := Lib.hid hL1
    by_cases hlt : k < n
    · obtain ⟨x, hx⟩ : ∃ x, l[k]? = some x := ⟨_, List.getElem?_eq_getElem (by rw [hn.out]; exact hlt)⟩
      obtain ⟨b, o, a', c', rfl, hs, hRS, -, hcb, hty, ham⟩ := h.out k x hx
      have htk : Hid (itsOf (l.take (k + 1)) = L1 ++ itC x.key) := Lib.hid (by rw [← hL1.out]; exact flatIt_take (fun c => itC (Zc.key c)) hx)
      have hl1 : Hid (L1.length + (itC x.key).length ≤ 20000000) := Lib.hid (by
        have h1 := flat_le (fun c => itC (Zc.key c)) l (k + 1)
        have h2 := hLen.out
        have h3 : (itsOf (l.take (k + 1))).length ≤ (itsOf l).length := h1
        rw [htk.out, List.length_append] at h3
        omega)
      obtain ⟨hx1, hx2⟩ := hin.out x (List.mem_of_getElem? hx)
      clear hx
      obtain ⟨xcb, xty, xam, xss⟩ := x
      simp only at hcb hty ham hx1 hx2 hRS
      have hitC : itC (Zc.key ⟨xcb, xty, xam, xss⟩) = iB (combZ xcb) :: (itT (tyK xty) ++ itN false xam ++ (xss.map Zs.key).flatMap itS) := rfl
      rw [hitC] at htk hl1
      obtain ⟨m, hm⟩ : ∃ y, xss.length = y := ⟨_, rfl⟩
      obtain ⟨d0, d1, d2, d3⟩ := segs4' ((show Seg w b (o + k * 4) [.int .u8 xcb, .int .u8 xty, .int .u8 xam, .slice a' m c'] by rw [← hm]; exact hs).after hI.out.2)
      rw [hm] at hx1
      have hRSw : Hid (RS w a' xss) := Lib.hid hRS
      replace hm := Lib.hid hm; replace hx2 := Lib.hid hx2
      clear hs hitC hRS
      have C18 := Lib.hid (fun W => comb18_c xcb hcb.1 hcb.2 W)
      have C23 := Lib.hid (fun W => let23_c xty hty.1 hty.2 W)
      have hwam := Lib.hid (wk64 (x := (xam : Int)) (by omega) (by omega))
      have i0 : (0 : Int) ≤ k := by omega
      have i1 : (k : Int) < n := by omega
      clear hcb hty
      go_upto_region 21 with fail
      refine wp_gen (fun W2 hW => ?_)
      have b2 : Hid (Below W1.heap.size W1 W2) := Lib.hid (by rw [hW]; exact ba _ _)
      have hS2 : Hid (NewAt W2 W1.heap.size #[.int .u8 xcb, .int .u8 xty, .int .u8 xam, .slice a' m c'] 42) := Lib.hid (by rw [hW]; exact newA _ _ _)
      clear hW d0 d1 d2 d3
      have hI2 := Lib.hid (hI.out.after b2.out)
      obtain ⟨C13, hC13⟩ : ∃ y, W1.heap.size = y := ⟨_, rfl⟩
      rw [hC13] at hS2 ⊢
      clear hC13
      obtain ⟨d0, d1, d2, d3⟩ := new_segs4 hS2.out
      go_upto_region 22 with first | (go_at_call 18; (with_reducible refine (C18.out _).mono ?_); rintro e w7 ⟨rfl, rfl⟩) | (at_builtin; go_loud (refine itL1 (W := W2) (.tmp 93) (.tmp 98) _ L1 w (iB (combZ xcb)) rfl rfl rfl rfl hI2.out (by have := hl1.out; omega) rfl ?_); intro a3 c3 n3 W3 hn3 hI3 hK3; replace hI3 := Lib.hid hI3; replace hn3 := Lib.hid hn3; replace hK3 := Lib.hid hK3)
      have hS3 := Lib.hid (hK3.out _ _ _ (by decide) hS2.out)
      clear d0 d1 d2 d3 hI hnI hI2 hS2 hK3 b2
      obtain ⟨L3, hL3⟩ : ∃ y, L1 ++ [iB (combZ xcb)] = y := ⟨_, rfl⟩
      rw [hL3] at hn3 hI3
      have hl3 : Hid (L3.length + (itT (tyK xty)).length + (itN false xam).length + ((xss.map Zs.key).flatMap itS).length ≤ 20000000) := Lib.hid (by
        have := hl1.out
        rw [← hL3]
        simp only [List.length_append, List.length_cons, List.length_nil] at this ⊢
        omega)
      replace hL3 := Lib.hid hL3
      obtain ⟨d0, d1, d2, d3⟩ := new_segs4 hS3.out
      go_upto_if 102 with fail
      go_cut [11] (fun v wx => ∃ (n4 : Nat) (a4 : Option Addr) (c4 : Nat), v = .slice a4 n4 c4 ∧ n4 = (L3 ++ itT (tyK xty)).length ∧ ItB (.slice a4 n4 c4) (L3 ++ itT (tyK xty)) w wx ∧ NewE 119 W3 wx)
      case first =>
        by_cases h0 : xty = 0
        · have q : (xty != 0) = false := by simp [h0]
          have hty : Hid (itT (tyK xty) = []) := Lib.hid (by unfold tyK; rw [if_pos h0]; rfl)
          clear h0
          go_wp2
          go_meet
          exact ⟨n3, a3, c3, rfl, by rw [hty.out, List.append_nil]; exact hn3.out, by rw [hty.out, List.append_nil]; exact hI3.out, NewE.of_below (Below.refl _ _)⟩
        · have q : (xty != 0) = true := by simp [h0]
          have hty : Hid (itT (tyK xty) = [iT (bs [letZ xty])]) := Lib.hid (by unfold tyK; rw [if_neg h0]; rfl)
          clear h0
          go_wp2_with first | (go_at_call 23; (with_reducible refine (C23.out _).mono ?_); rintro e w7 ⟨rfl, b7⟩; have hI3' := Lib.hid (hI3.out.after b7); replace b7 := Lib.hid b7) | (at_builtin; go_loud (refine itL1 (W := w7) (.tmp 103) (.tmp 108) _ L3 w (iT (bs [letZ xty])) rfl rfl rfl rfl hI3'.out (by have := hl3.out; omega) rfl ?_); intro a4 c4 n4 W4 hn4 hI4 hK4; replace hI4 := Lib.hid hI4; replace hn4 := Lib.hid hn4; replace hK4 := Lib.hid hK4)
          go_meet
          exact ⟨n4, a4, c4, rfl, by rw [hty.out]; exact hn4.out, by rw [hty.out]; exact hI4.out, (NewE.of_below b7.out).trans hK4.out⟩
      case rest =>
        clear d0 d1 d2 d3 hI3 hn3
        obtain ⟨n4, a4, c4, rfl, hn4, hI4, hK4⟩ := hcut
        obtain ⟨W4, rfl⟩ : ∃ y, y = wc := ⟨_, rfl⟩
        have hS4 := Lib.hid (hK4 _ _ _ (by decide) hS3.out)
        obtain ⟨L4, hL4⟩ : ∃ y, L3 ++ itT (tyK xty) = y := ⟨_, rfl⟩
        rw [hL4] at hn4 hI4
        have hl4 : Hid (L4.length + (itN false xam).length + ((xss.map Zs.key).flatMap itS).length ≤ 20000000) := Lib.hid (by have := hl3.out; rw [← hL4, List.length_append]; omega)
        replace hL4 := Lib.hid hL4; replace hn4 := Lib.hid hn4; replace hI4 := Lib.hid hI4
        clear hK4 hS3
        obtain ⟨d0, d1, d2, d3⟩ := new_segs4 hS4.out
        go_upto_if 112 with fail
        go_cut [11] (fun v wx => ∃ (n5 : Nat) (a5 : Option Addr) (c5 : Nat), v = .slice a5 n5 c5 ∧ n5 = (L4 ++ itN false xam).length ∧ ItB (.slice a5 n5 c5) (L4 ++ itN false xam) w wx ∧ NewE 119 W4 wx)
        case first =>
          by_cases h0 : xam = 0
          · have q : ((xam : Int) != 0) = false := by simp [h0]
            have hty : Hid (itN false xam = []) := Lib.hid (by unfold itN; rw [if_pos h0])
            clear h0
            go_wp2
            go_meet
            exact ⟨n4, a4, c4, rfl, by rw [hty.out, List.append_nil]; exact hn4.out, by rw [hty.out, List.append_nil]; exact hI4.out, NewE.of_below (Below.refl _ _)⟩
          · have q : ((xam : Int) != 0) = true := by simp [h0]
            have hwa := hwam.out
            have hty : Hid (itN false xam = [iA xam]) := Lib.hid (by unfold itN; rw [if_neg h0]; rfl)
            clear h0
            go_wp2_with (at_builtin; go_loud (refine itL1 (W := W4) (.tmp 113) (.tmp 118) _ L4 w (iA xam) rfl rfl rfl rfl hI4.out (by have := hl4.out; omega) rfl ?_); intro a5 c5 n5 W5 hn5 hI5 hK5; replace hI5 := Lib.hid hI5; replace hn5 := Lib.hid hn5; replace hK5 := Lib.hid hK5)
            go_meet
            exact ⟨n5, a5, c5, rfl, by rw [hty.out]; exact hn5.out, by rw [hty.out]; exact hI5.out, hK5.out⟩
        case rest =>
          clear d0 d1 d2 d3 hI4 hn4
          obtain ⟨n5, a5, c5, rfl, hn5, hI5, hK5⟩ := hcut
          obtain ⟨W5, rfl⟩ : ∃ y, y = wc := ⟨_, rfl⟩
          have hS5 := Lib.hid (hK5 _ _ _ (by decide) hS4.out)
          obtain ⟨L5, hL5⟩ : ∃ y, L4 ++ itN false xam = y := ⟨_, rfl⟩
          rw [hL5] at hn5 hI5
          have hl5 : Hid (L5.length + ((xss.map Zs.key).flatMap itS).length ≤ 20000000) := Lib.hid (by have := hl4.out; rw [← hL5, List.length_append]; omega)
          replace hL5 := Lib.hid hL5; replace hn5 := Lib.hid hn5; replace hI5 := Lib.hid hI5
          clear hK5 hS4
          obtain ⟨d0, d1, d2, d3⟩ := new_segs4 hS5.out
          go_wp2
          clear d0 d1 d2 d3
          refine wp_loop (fun az wr => ∃ u : Nat → Value, IsA az (U359 u) ∧ u 0 = .slice (some ⟨b, o, none⟩) n cc ∧ u 12 = .int .i64 (k : Nat) ∧ u 13 = .pointer (some ⟨C13, 0, none⟩) ∧ R4 L5 xss m w C13 #[.int .u8 xcb, .int .u8 xty, .int .u8 xam, .slice a' m c'] (u 11) (u 14) wr) (fun az wr => m - (intOf (az.tmps.getD 14 undef)).toNat) ?_ ?_
          · refine ⟨_, am359 _ rfl, ?_⟩
            exact ⟨rfl, rfl, rfl, 0, n5, a5, c5, by omega, rfl, rfl, by simpa using hn5.out, by simpa using hI5.out, hS5.out⟩
          · rintro ac wr ⟨u, hA, l0, l12, l13, hrel⟩
            obtain rfl : ac = ⟨U359 u, []⟩ := hA
            clear hI5 hn5 hS5
            obtain ⟨j, n6, a6, c6, hj, ei, ev, hn6, hI6, hS6⟩ := hrel
            rw [show (⟨U359 u, []⟩ : Act) = ⟨#[.slice (some ⟨b, o, none⟩) n cc, u 1, u 2, u 3, u 4, u 5, u 6, u 7, u 8, u 9, u 10, .slice a6 n6 c6, .int .i64 (k : Nat), .pointer (some ⟨C13, 0, none⟩), .int .i64 (j : Nat), u 15, u 16, u 17, u 18, u 19, u 20, u 21, u 22, u 23, u 24, u 25, u 26, u 27, u 28, u 29, u 30, u 31, u 32, u 33, u 34, u 35, u 36, u 37, u 38, u 39, u 40, u 41, u 42, u 43, u 44, u 45, u 46, u 47, u 48, u 49, u 50, u 51, u 52, u 53, u 54, u 55, u 56, u 57, u 58, u 59, u 60, u 61, u 62, u 63, u 64, u 65, u 66, u 67, u 68, u 69, u 70, u 71, u 72, u 73, u 74, u 75, u 76, u 77, u 78, u 79, u 80, u 81, u 82, u 83, u 84, u 85, u 86, u 87, u 88, u 89, u 90, u 91, u 92, u 93, u 94, u 95, u 96, u 97, u 98, u 99, u 100, u 101, u 102, u 103, u 104, u 105, u 106, u 107, u 108, u 109, u 110, u 111, u 112, u 113, u 114, u 115, u 116, u 117, u 118, u 119, u 120, u 121, u 122, u 123, u 124, u 125, u 126, u 127, u 128, u 129, u 130, u 131, u 132, u 133, u 134, u 135, u 136, u 137, u 138, u 139, u 140, u 141, u 142, u 143, u 144, u 145, u 146, u 147, u 148, u 149, u 150, u 151, u 152, u 153, u 154, u 155, u 156, u 157, u 158, u 159, u 160, u 161, u 162, u 163, u 164, u 165, u 166, u 167, u 168, u 169, u 170, u 171, u 172, u 173, u 174, u 175, u 176, u 177, u 178, u 179, u 180, u 181, u 182, u 183, u 184, u 185, u 186, u 187, u 188, u 189, u 190, u 191, u 192, u 193, u 194, u 195, u 196, u 197, u 198, u 199, u 200, u 201, u 202, u 203, u 204, u 205, u 206, u 207, u 208, u 209, u 210, u 211, u 212, u 213, u 214, u 215, u 216, u 217, u 218, u 219, u 220, u 221, u 222, u 223, u 224, u 225, u 226, u 227, u 228, u 229, u 230, u 231, u 232, u 233, u 234, u 235, u 236, u 237, u 238, u 239, u 240, u 241, u 242, u 243, u 244, u 245, u 246, u 247, u 248, u 249, u 250, u 251, u 252, u 253, u 254, u 255, u 256, u 257, u 258, u 259, u 260, u 261, u 262, u 263, u 264, u 265, u 266, u 267, u 268, u 269, u 270, u 271, u 272, u 273, u 274, u 275, u 276, u 277, u 278, u 279, u 280, u 281, u 282, u 283, u 284, u 285, u 286, u 287, u 288, u 289, u 290, u 291, u 292, u 293, u 294, u 295, u 296, u 297, u 298, u 299, u 300, u 301, u 302, u 303, u 304, u 305, u 306, u 307, u 308, u 309, u 310, u 311, u 312, u 313, u 314, u 315, u 316, u 317, u 318, u 319, u 320, u 321, u 322, u 323, u 324, u 325, u 326, u 327, u 328, u 329, u 330, u 331, u 332, u 333, u 334, u 335, u 336, u 337, u 338, u 339, u 340, u 341, u 342, u 343, u 344, u 345, u 346, u 347, u 348, u 349, u 350, u 351, u 352, u 353, u 354, u 355, u 356, u 357, u 358], []⟩ by simp only [U359, l0, l12, l13, ei, ev]]
            clear l0 l12 l13 ei ev
            obtain ⟨W6, rfl⟩ : ∃ y, y = wr := ⟨_, rfl⟩
            obtain ⟨L6, hL6⟩ : ∃ y, L5 ++ ((xss.take j).map Zs.key).flatMap itS = y := ⟨_, rfl⟩
            rw [hL6] at hn6 hI6
            replace hn6 := Lib.hid hn6; replace hI6 := Lib.hid hI6; replace hS6 := Lib.hid hS6; replace hL6 := Lib.hid hL6
            obtain ⟨d0, d1, d2, d3⟩ := new_segs4 hS6.out
            by_cases hltj : j < m
            · obtain ⟨s, hsj⟩ : ∃ s, xss[j]? = some s := ⟨_, List.getElem?_eq_getElem (by rw [hm.out]; exact hltj)⟩
              obtain ⟨nb, no, ia, ic, rfl, hcs, hRI, -, hkd, -⟩ := hRSw.out j s hsj
              have hjt : Hid (L5 ++ ((xss.take (j + 1)).map Zs.key).flatMap itS = L6 ++ itS s.key) := Lib.hid (by rw [mapt (f := Zs.key) hsj, List.flatMap_append, ← List.append_assoc, hL6.out]; simp)
              have hl6 : Hid (L6.length + (itS s.key).length ≤ 20000000) := Lib.hid (by
                have h1 := flat_le itS (xss.map Zs.key) (j + 1)
                rw [← List.map_take] at h1
                have h2 := hl5.out
                have h3 : (L5 ++ ((xss.take (j + 1)).map Zs.key).flatMap itS).length ≤ 20000000 := by rw [List.length_append]; omega
                rw [hjt.out, List.length_append] at h3
                exact h3)
              obtain ⟨⟨hz1, hz3, hz4⟩, hz5⟩ := hx2.out s (List.mem_of_getElem? hsj)
              clear hsj
              obtain ⟨wr, kd, nm, inn⟩ := s
              simp only at hkd hz1 hz3 hz4 hz5 hRI
              obtain ⟨p, hp⟩ : ∃ y, inn.length = y := ⟨_, rfl⟩
              obtain ⟨y0, y1, y2, y3⟩ := segs4' ((show Seg w nb (no + j * 4) [.bool wr, .int .u8 kd, .string nm, .slice ia p ic] by rw [← hp]; exact hcs).after hI6.out.2)
              have C15 := Lib.hid (fun W => lgk15_c kd hkd.1 hkd.2 W)
              have C16 := Lib.hid (fun W => lgn16_c nm W)
              have C24 : Hid (∀ W, Below w.heap.size w W → Calls Try.prog 24 #[.agg #[.bool wr, .int .u8 kd, .string nm, .slice ia p ic]] W (RetV (.string (enc (Zs.key ⟨wr, kd, nm, inn⟩))) W)) := Lib.hid (fun W hb => by rw [← hp]; exact enc24_c ⟨wr, kd, nm, inn⟩ ia ic hkd hz1 hz3 hz4 W (hRI.after hb))
              have hkq := kind_lg kd hkd.1
              replace hRI := Lib.hid hRI; replace hp := Lib.hid hp; replace hz5 := Lib.hid hz5
              have hp2 : p ≤ 1048576 := by have := hp.out; omega
              have j0 : (0 : Int) ≤ j := by omega
              have j1 : (j : Int) < m := by omega
              have hjn : j ≤ 1048576 := by omega
              clear hcs hkd hz3 hz4
              go_upto_region 30 with fail
              refine wp_gen (fun Wq hW => ?_)
              have bq : Hid (Below W6.heap.size W6 Wq) := Lib.hid (by rw [hW]; exact ba _ _)
              have hTq : Hid (NewAt Wq W6.heap.size #[.bool wr, .int .u8 kd, .string nm, .slice ia p ic] 45) := Lib.hid (by rw [hW]; exact newA _ _ _)
              clear hW d0 d1 d2 d3 y0 y1 y2 y3
              have hIq := Lib.hid (hI6.out.after bq.out)
              have hSq := Lib.hid (hS6.out.after bq.out)
              obtain ⟨C15b, hC15⟩ : ∃ y, W6.heap.size = y := ⟨_, rfl⟩
              rw [hC15] at hTq ⊢
              clear hC15 bq hI6 hS6
              obtain ⟨d0, d1, d2, d3⟩ := new_segs4 hTq.out
              cases wr with
              | false =>
                have hit : Hid (itS (Zs.key ⟨false, kd, nm, inn⟩) = if lgN nm then [] else [iS (dotN nm)]) := Lib.hid rfl
                have q1 : ¬ (9223372036854775807 < 1 + nm.size) := by omega
                obtain ⟨L, hLe⟩ : ∃ y, lgN nm = y := ⟨_, rfl⟩
                rw [hLe] at C16 hit
                clear hLe hkq hz1 C24 C15
                cases L with
                | true =>
                  rw [hit.out, if_pos rfl, List.append_nil] at hjt
                  go_wp2_with (go_at_call 16; (with_reducible refine (C16.out _).mono ?_); rintro e w7 ⟨rfl, rfl⟩)
                  refine ⟨⟨_, am359 _ rfl, ?_⟩, ?_⟩
                  · exact ⟨rfl, rfl, rfl, j + 1, n6, a6, c6, by omega, num1 _, rfl, by rw [hjt.out]; exact hn6.out, by rw [hjt.out]; exact hIq.out, hSq.out⟩
                  · simp [intOf]; omega
                | false =>
                  rw [hit.out] at hjt hl6
                  simp only [Bool.false_eq_true, if_false] at hjt hl6
                  go_wp2_with first | (go_at_call 16; (with_reducible refine (C16.out _).mono ?_); rintro e w7 ⟨rfl, rfl⟩) | (at_builtin; go_loud (refine itL1 (W := Wq) (.tmp 139) (.tmp 144) _ L6 w (iS (dotN nm)) rfl rfl rfl rfl hIq.out (by have := hl6.out; omega) rfl ?_); intro a7 c7 n7 W7 hn7 hI7 hK7; replace hI7 := Lib.hid hI7; replace hn7 := Lib.hid hn7; replace hK7 := Lib.hid hK7)
                  refine ⟨⟨_, am359 _ rfl, ?_⟩, ?_⟩
                  · exact ⟨rfl, rfl, rfl, j + 1, n7, a7, c7, by omega, num1 _, rfl, by rw [hjt.out]; exact hn7.out, by rw [hjt.out]; exact hI7.out, hK7.out _ _ _ (by decide) hSq.out⟩
                  · simp [intOf]; omega
              | true =>
                have hit : Hid (itS (Zs.key ⟨true, kd, nm, inn⟩) = if lgK kd then itL (inn.map Zi.key) else [iS (enc (Zs.key ⟨true, kd, nm, inn⟩))]) := Lib.hid (by
                  rw [← hkq]
                  rfl)
                obtain ⟨L, hLe⟩ : ∃ y, lgK kd = y := ⟨_, rfl⟩
                rw [hLe] at C15 hit
                clear hLe hkq C16
                cases L with
                | false =>
                  rw [hit.out] at hjt hl6
                  simp only [Bool.false_eq_true, if_false] at hjt hl6
                  obtain ⟨ex, hex⟩ : ∃ y, enc (Zs.key ⟨true, kd, nm, inn⟩) = y := ⟨_, rfl⟩
                  rw [hex] at hjt hl6 C24
                  clear hex hit
                  have hbq : Hid (Below w.heap.size w Wq) := Lib.hid hIq.out.2
                  go_wp2_with first | (go_at_call 15; (with_reducible refine (C15.out _).mono ?_); rintro e w7 ⟨rfl, rfl⟩) | (go_at_call 24; (with_reducible refine (C24.out _ hbq.out).mono ?_); rintro e w8 ⟨rfl, b8⟩; have hI8 := Lib.hid (hIq.out.after b8); have hS8 := Lib.hid (hSq.out.after b8); clear b8) | (at_builtin; go_loud (refine itL1 (W := w8) (.tmp 150) (.tmp 154) _ L6 w (iS ex) rfl rfl rfl rfl hI8.out (by have := hl6.out; omega) rfl ?_); intro a7 c7 n7 W7 hn7 hI7 hK7; replace hI7 := Lib.hid hI7; replace hn7 := Lib.hid hn7; replace hK7 := Lib.hid hK7)
                  refine ⟨⟨_, am359 _ rfl, ?_⟩, ?_⟩
                  · exact ⟨rfl, rfl, rfl, j + 1, n7, a7, c7, by omega, num1 _, rfl, by rw [hjt.out]; exact hn7.out, by rw [hjt.out]; exact hI7.out, hK7.out _ _ _ (by decide) hS8.out⟩
                  · simp [intOf]; omega
                | true =>
                  rw [hit.out, if_pos rfl] at hjt hl6
                  clear hit C24
                  go_upto_region 35 with (go_at_call 15; (with_reducible refine (C15.out _).mono ?_); rintro e w7 ⟨rfl, rfl⟩)
                  clear C15
                  go_wp2
                  clear d0 d1 d2 d3
                  refine wp_loop (fun az wr => ∃ u : Nat → Value, IsA az (U359 u) ∧ u 0 = .slice (some ⟨b, o, none⟩) n cc ∧ u 12 = .int .i64 (k : Nat) ∧ u 13 = .pointer (some ⟨C13, 0, none⟩) ∧ u 14 = .int .i64 (j : Nat) ∧ u 15 = .pointer (some ⟨C15b, 0, none⟩) ∧ R5 L6 inn p w C13 C15b #[.int .u8 xcb, .int .u8 xty, .int .u8 xam, .slice (some ⟨nb, no, none⟩) m c'] #[.bool true, .int .u8 kd, .string nm, .slice ia p ic] (u 11) (u 16) wr) (fun az wr => p - (intOf (az.tmps.getD 16 undef)).toNat) ?_ ?_
                  · refine ⟨_, am359 _ rfl, ?_⟩
                    exact ⟨rfl, rfl, rfl, rfl, rfl, 0, n6, a6, c6, by omega, rfl, rfl, by simpa [itL] using hn6.out, by simpa [itL] using hIq.out, hSq.out, hTq.out⟩
                  · rintro ac wr ⟨u, hA, l0, l12, l13, l14, l15, hrel⟩
                    obtain rfl : ac = ⟨U359 u, []⟩ := hA
                    clear hn6 hIq hSq hTq
                    obtain ⟨k2, n7, a7, c7, hk2, ei, ev, hn7, hI7, hS7, hT7⟩ := hrel
                    rw [show (⟨U359 u, []⟩ : Act) = ⟨#[.slice (some ⟨b, o, none⟩) n cc, u 1, u 2, u 3, u 4, u 5, u 6, u 7, u 8, u 9, u 10, .slice a7 n7 c7, .int .i64 (k : Nat), .pointer (some ⟨C13, 0, none⟩), .int .i64 (j : Nat), .pointer (some ⟨C15b, 0, none⟩), .int .i64 (k2 : Nat), u 17, u 18, u 19, u 20, u 21, u 22, u 23, u 24, u 25, u 26, u 27, u 28, u 29, u 30, u 31, u 32, u 33, u 34, u 35, u 36, u 37, u 38, u 39, u 40, u 41, u 42, u 43, u 44, u 45, u 46, u 47, u 48, u 49, u 50, u 51, u 52, u 53, u 54, u 55, u 56, u 57, u 58, u 59, u 60, u 61, u 62, u 63, u 64, u 65, u 66, u 67, u 68, u 69, u 70, u 71, u 72, u 73, u 74, u 75, u 76, u 77, u 78, u 79, u 80, u 81, u 82, u 83, u 84, u 85, u 86, u 87, u 88, u 89, u 90, u 91, u 92, u 93, u 94, u 95, u 96, u 97, u 98, u 99, u 100, u 101, u 102, u 103, u 104, u 105, u 106, u 107, u 108, u 109, u 110, u 111, u 112, u 113, u 114, u 115, u 116, u 117, u 118, u 119, u 120, u 121, u 122, u 123, u 124, u 125, u 126, u 127, u 128, u 129, u 130, u 131, u 132, u 133, u 134, u 135, u 136, u 137, u 138, u 139, u 140, u 141, u 142, u 143, u 144, u 145, u 146, u 147, u 148, u 149, u 150, u 151, u 152, u 153, u 154, u 155, u 156, u 157, u 158, u 159, u 160, u 161, u 162, u 163, u 164, u 165, u 166, u 167, u 168, u 169, u 170, u 171, u 172, u 173, u 174, u 175, u 176, u 177, u 178, u 179, u 180, u 181, u 182, u 183, u 184, u 185, u 186, u 187, u 188, u 189, u 190, u 191, u 192, u 193, u 194, u 195, u 196, u 197, u 198, u 199, u 200, u 201, u 202, u 203, u 204, u 205, u 206, u 207, u 208, u 209, u 210, u 211, u 212, u 213, u 214, u 215, u 216, u 217, u 218, u 219, u 220, u 221, u 222, u 223, u 224, u 225, u 226, u 227, u 228, u 229, u 230, u 231, u 232, u 233, u 234, u 235, u 236, u 237, u 238, u 239, u 240, u 241, u 242, u 243, u 244, u 245, u 246, u 247, u 248, u 249, u 250, u 251, u 252, u 253, u 254, u 255, u 256, u 257, u 258, u 259, u 260, u 261, u 262, u 263, u 264, u 265, u 266, u 267, u 268, u 269, u 270, u 271, u 272, u 273, u 274, u 275, u 276, u 277, u 278, u 279, u 280, u 281, u 282, u 283, u 284, u 285, u 286, u 287, u 288, u 289, u 290, u 291, u 292, u 293, u 294, u 295, u 296, u 297, u 298, u 299, u 300, u 301, u 302, u 303, u 304, u 305, u 306, u 307, u 308, u 309, u 310, u 311, u 312, u 313, u 314, u 315, u 316, u 317, u 318, u 319, u 320, u 321, u 322, u 323, u 324, u 325, u 326, u 327, u 328, u 329, u 330, u 331, u 332, u 333, u 334, u 335, u 336, u 337, u 338, u 339, u 340, u 341, u 342, u 343, u 344, u 345, u 346, u 347, u 348, u 349, u 350, u 351, u 352, u 353, u 354, u 355, u 356, u 357, u 358], []⟩ by simp only [U359, l0, l12, l13, l14, l15, ei, ev]]
                    clear l0 l12 l13 l14 l15 ei ev
                    obtain ⟨W7o, rfl⟩ : ∃ y, y = wr := ⟨_, rfl⟩
                    obtain ⟨L7, hL7⟩ : ∃ y, L6 ++ itL ((inn.take k2).map Zi.key) = y := ⟨_, rfl⟩
                    rw [hL7] at hn7 hI7
                    replace hn7 := Lib.hid hn7; replace hI7 := Lib.hid hI7; replace hS7 := Lib.hid hS7; replace hT7 := Lib.hid hT7; replace hL7 := Lib.hid hL7
                    obtain ⟨d0, d1, d2, d3⟩ := new_segs4 hT7.out
                    by_cases hlt2 : k2 < p
                    · obtain ⟨y, hy⟩ : ∃ y, inn[k2]? = some y := ⟨_, List.getElem?_eq_getElem (by rw [hp.out]; exact hlt2)⟩
                      obtain ⟨ib, io, ya, yc, rfl, hcs2, hRNy, -, hycb, hyty, hyam⟩ := hRI.out k2 y hy
                      have hyk' : (inn.map Zi.key)[k2]? = some (Zi.key y) := by rw [List.getElem?_map, hy]; rfl
                      have hik0 : Hid (L6 ++ itL ((inn.take (k2 + 1)).map Zi.key) = L7 ++ itI (decide (k2 = 0) && decide ((Zi.key y).cb = 0)) (Zi.key y)) := Lib.hid (by
                        rw [List.map_take, itL_take hyk', ← List.map_take, ← List.append_assoc, hL7.out])
                      have hl7' : L7.length ≤ 20000000 := by
                        have h1 := itL_le (inn.map Zi.key) k2
                        rw [← List.map_take] at h1
                        have h2 := hl6.out
                        rw [← hL7.out, List.length_append]
                        omega
                      obtain ⟨hyz1, hyz2⟩ := hz5.out y (List.mem_of_getElem? hy)
                      clear hy hyk'
                      obtain ⟨yk, hyk⟩ : ∃ z, Zi.key y = z := ⟨_, rfl⟩
                      rw [hyk] at hik0
                      obtain ⟨ycb, yty, yam, ynm⟩ := y
                      replace hyk : Hid (yk = ⟨combZ ycb, tyK yty, yam, ynm⟩) := Lib.hid (by rw [← hyk]; rfl)
                      simp only at hcs2 hRNy hycb hyty hyam hyz1 hyz2
                      obtain ⟨r, hr⟩ : ∃ z, ynm.length = z := ⟨_, rfl⟩
                      rw [hr] at hyz1
                      obtain ⟨y0, y1, y2, y3⟩ := segs4' ((show Seg w ib (io + k2 * 4) [.int .u8 ycb, .int .u8 yty, .int .u8 yam, .slice ya r yc] by rw [← hr]; exact hcs2).after hI7.out.2)
                      have hl7 : Hid (L7.length + r ≤ 25000000) := Lib.hid (by omega)
                      have hyz : Hid (∀ s ∈ ynm, s.size ≤ 1048576) := Lib.hid hyz2
                      have C18y := Lib.hid (fun W => comb18_c ycb hycb.1 hycb.2 W)
                      have C23y := Lib.hid (fun W => let23_c yty hyty.1 hyty.2 W)
                      have hwy := Lib.hid (wk64 (x := (yam : Int)) (by omega) (by omega))
                      replace hr := Lib.hid hr; replace hRNy := Lib.hid hRNy
                      have p0 : (0 : Int) ≤ k2 := by omega
                      have p1 : (k2 : Int) < p := by omega
                      have hk2n : k2 ≤ 1048576 := by omega
                      clear hcs2 hycb hyty hyz2 hl7'
                      go_upto_region 39 with fail
                      refine wp_gen (fun W7 hW => ?_)
                      have b7 : Hid (Below W7o.heap.size W7o W7) := Lib.hid (by rw [hW]; exact ba _ _)
                      have hU7 : Hid (NewAt W7 W7o.heap.size #[.int .u8 ycb, .int .u8 yty, .int .u8 yam, .slice ya r yc] 48) := Lib.hid (by rw [hW]; exact newA _ _ _)
                      clear hW d0 d1 d2 d3 y0 y1 y2 y3
                      replace hI7 := Lib.hid (hI7.out.after b7.out)
                      replace hS7 := Lib.hid (hS7.out.after b7.out)
                      replace hT7 := Lib.hid (hT7.out.after b7.out)
                      obtain ⟨C17, hC17⟩ : ∃ z, W7o.heap.size = z := ⟨_, rfl⟩
                      rw [hC17] at hU7 ⊢
                      clear hC17 b7
                      obtain ⟨d0, d1, d2, d3⟩ := new_segs4 hU7.out
                      have hcbk : yk.cb = combZ ycb := by rw [hyk.out]
                      obtain ⟨mb, hmb⟩ : ∃ y, (decide (k2 = 0) && decide (combZ ycb = 0)) = y := ⟨_, rfl⟩
                      have hik : Hid (L6 ++ itL ((inn.take (k2 + 1)).map Zi.key) = L7 ++ itI mb yk) := Lib.hid (by rw [hik0.out, hcbk, hmb])
                      replace hmb := Lib.hid hmb
                      clear hcbk hik0
                      go_cut [18] (fun v wx => v = .bool mb ∧ W7 = wx)
                      case first =>
                        by_cases hk0 : k2 = 0
                        · have qk : ((k2 : Int) == 0) = true := by simp [hk0]
                          by_cases hc0 : combZ ycb = 0
                          · have qc : (combZ ycb == 0) = true := by simp [hc0]
                            have hmb2 : Hid (mb = true) := Lib.hid (by rw [← hmb.out, hk0, hc0]; rfl)
                            clear hk0 hc0
                            go_wp2_with (go_at_call 18; (with_reducible refine (C18y.out _).mono ?_); rintro e w7 ⟨rfl, rfl⟩)
                            go_meet
                            exact ⟨by rw [hmb2.out], by first | rfl | trivial⟩
                          · have qc : (combZ ycb == 0) = false := by simp [hc0]
                            have hmb2 : Hid (mb = false) := Lib.hid (by rw [← hmb.out]; simp [hc0])
                            clear hk0 hc0
                            go_wp2_with (go_at_call 18; (with_reducible refine (C18y.out _).mono ?_); rintro e w7 ⟨rfl, rfl⟩)
                            go_meet
                            exact ⟨by rw [hmb2.out], by first | rfl | trivial⟩
                        · have qk : ((k2 : Int) == 0) = false := by simp; omega
                          have hmb2 : Hid (mb = false) := Lib.hid (by rw [← hmb.out]; simp [hk0])
                          clear hk0
                          go_wp2
                          go_meet
                          exact ⟨by rw [hmb2.out], by first | rfl | trivial⟩
                      case rest =>
                        obtain ⟨rfl, rfl⟩ := hcut
                        clear hmb
                        go_upto_if 177 with fail
                        go_cut [11] (fun v wx => ∃ (n8 : Nat) (a8 : Option Addr) (c8 : Nat), v = .slice a8 n8 c8 ∧ n8 = (L7 ++ (if mb then [] else [iB (combZ ycb)])).length ∧ ItB (.slice a8 n8 c8) (L7 ++ (if mb then [] else [iB (combZ ycb)])) w wx ∧ NewE 119 W7 wx)
                        case first =>
                          cases mb with
                          | true =>
                            go_wp2
                            go_meet
                            exact ⟨n7, a7, c7, rfl, by simpa using hn7.out, by simpa using hI7.out, NewE.of_below (Below.refl _ _)⟩
                          | false =>
                            go_wp2_with first | (at_builtin; go_loud (refine itL1 (W := W7) (.tmp 178) (.tmp 183) _ L7 w (iB (combZ ycb)) rfl rfl rfl rfl hI7.out (by have := hl7.out; omega) rfl ?_); intro a8 c8 n8 W8 hn8 hI8 hK8; replace hI8 := Lib.hid hI8; replace hn8 := Lib.hid hn8; replace hK8 := Lib.hid hK8) | (go_at_call 18; (with_reducible refine (C18y.out _).mono ?_); rintro e w7 ⟨rfl, rfl⟩)
                            go_meet
                            exact ⟨n8, a8, c8, rfl, hn8.out, hI8.out, hK8.out⟩
                        case rest =>
                          obtain ⟨n8, a8, c8, rfl, hn8, hI8, hK8⟩ := hcut
                          obtain ⟨W8, rfl⟩ : ∃ y, y = wc := ⟨_, rfl⟩
                          replace hn8 := Lib.hid hn8; replace hI8 := Lib.hid hI8
                          have hS8 := Lib.hid (hK8 _ _ _ (by decide) hS7.out)
                          have hT8 := Lib.hid (hK8 _ _ _ (by decide) hT7.out)
                          have hU8 := Lib.hid (hK8 _ _ _ (by decide) hU7.out)
                          clear hK8
                          clear d0 d1 d2 d3 hI7 hn7 hS7 hT7 hU7
                          obtain ⟨L8, hL8⟩ : ∃ y, L7 ++ (if mb then [] else [iB (combZ ycb)]) = y := ⟨_, rfl⟩
                          have hI8' : Hid (ItB (.slice a8 n8 c8) L8 w W8) := by rw [← hL8]; exact hI8
                          have hn8' : Hid (n8 = L8.length) := by rw [← hL8]; exact hn8
                          have hl8 : Hid (L8.length ≤ L7.length + 1) := Lib.hid (by rw [← hL8, List.length_append]; cases mb <;> simp)
                          replace hL8 := Lib.hid hL8
                          clear hI8 hn8
                          obtain ⟨d0, d1, d2, d3⟩ := new_segs4 hU8.out
                          go_upto_if 187 with fail
                          go_cut [11] (fun v wx => ∃ (n9 : Nat) (a9 : Option Addr) (c9 : Nat), v = .slice a9 n9 c9 ∧ n9 = (L8 ++ itT (tyK yty)).length ∧ ItB (.slice a9 n9 c9) (L8 ++ itT (tyK yty)) w wx ∧ NewE 119 W8 wx)
                          case first =>
                            by_cases h0 : yty = 0
                            · have q : (yty != 0) = false := by simp [h0]
                              have hty : Hid (itT (tyK yty) = []) := Lib.hid (by unfold tyK; rw [if_pos h0]; rfl)
                              clear h0
                              go_wp2
                              go_meet
                              exact ⟨n8, a8, c8, rfl, by rw [hty.out, List.append_nil]; exact hn8'.out, by rw [hty.out, List.append_nil]; exact hI8'.out, NewE.of_below (Below.refl _ _)⟩
                            · have q : (yty != 0) = true := by simp [h0]
                              have hty : Hid (itT (tyK yty) = [iT (bs [letZ yty])]) := Lib.hid (by unfold tyK; rw [if_neg h0]; rfl)
                              clear h0
                              go_wp2_with first | (go_at_call 23; (with_reducible refine (C23y.out _).mono ?_); rintro e w7 ⟨rfl, b7⟩; have hI8'' := Lib.hid (hI8'.out.after b7); replace b7 := Lib.hid b7) | (at_builtin; go_loud (refine itL1 (W := w7) (.tmp 188) (.tmp 193) _ L8 w (iT (bs [letZ yty])) rfl rfl rfl rfl hI8''.out (by have := hl7.out; have := hl8.out; omega) rfl ?_); intro a9 c9 n9 W9 hn9 hI9 hK9; replace hI9 := Lib.hid hI9; replace hn9 := Lib.hid hn9; replace hK9 := Lib.hid hK9)
                              go_meet
                              exact ⟨n9, a9, c9, rfl, by rw [hty.out]; exact hn9.out, by rw [hty.out]; exact hI9.out, (NewE.of_below b7.out).trans hK9.out⟩
                          case rest =>
                            clear d0 d1 d2 d3 hI8' hn8'
                            obtain ⟨n9, a9, c9, rfl, hn9, hI9, hK9⟩ := hcut
                            obtain ⟨W9, rfl⟩ : ∃ y, y = wc := ⟨_, rfl⟩
                            have hS9 := Lib.hid (hK9 _ _ _ (by decide) hS8.out)
                            have hT9 := Lib.hid (hK9 _ _ _ (by decide) hT8.out)
                            have hU9 := Lib.hid (hK9 _ _ _ (by decide) hU8.out)
                            clear hK9 hS8 hT8 hU8
                            obtain ⟨L9, hL9⟩ : ∃ y, L8 ++ itT (tyK yty) = y := ⟨_, rfl⟩
                            rw [hL9] at hn9 hI9
                            have hl9 : Hid (L9.length ≤ L7.length + 2) := Lib.hid (by have := hl8.out; rw [← hL9, List.length_append]; have : (itT (tyK yty)).length ≤ 1 := itT_le _; omega)
                            replace hL9 := Lib.hid hL9; replace hn9 := Lib.hid hn9; replace hI9 := Lib.hid hI9
                            obtain ⟨d0, d1, d2, d3⟩ := new_segs4 hU9.out
                            go_upto_if 197 with fail
                            go_cut [11] (fun v wx => ∃ (n9' : Nat) (a9' : Option Addr) (c9' : Nat), v = .slice a9' n9' c9' ∧ n9' = (L9 ++ itN mb yam).length ∧ ItB (.slice a9' n9' c9') (L9 ++ itN mb yam) w wx ∧ NewE 119 W9 wx)
                            case first =>
                              by_cases h0 : yam = 0
                              · have q : ((yam : Int) != 0) = false := by simp [h0]
                                have hty : Hid (itN mb yam = []) := Lib.hid (by unfold itN; rw [if_pos h0])
                                clear h0
                                go_wp2
                                go_meet
                                exact ⟨n9, a9, c9, rfl, by rw [hty.out, List.append_nil]; exact hn9.out, by rw [hty.out, List.append_nil]; exact hI9.out, NewE.of_below (Below.refl _ _)⟩
                              · have q : ((yam : Int) != 0) = true := by simp [h0]
                                have hwa := hwy.out
                                cases mb with
                                | true =>
                                  have hty : Hid (itN true yam = [iM yam]) := Lib.hid (by unfold itN; rw [if_neg h0]; rfl)
                                  clear h0
                                  go_wp2_with (at_builtin; go_loud (refine itL1 (W := W9) (.tmp 199) (.tmp 204) _ L9 w (iM yam) rfl rfl rfl rfl hI9.out (by have := hl7.out; have := hl9.out; omega) rfl ?_); intro a10 c10 n10 W10 hn10 hI10 hK10; replace hI10 := Lib.hid hI10; replace hn10 := Lib.hid hn10; replace hK10 := Lib.hid hK10)
                                  go_meet
                                  exact ⟨n10, a10, c10, rfl, by rw [hty.out]; exact hn10.out, by rw [hty.out]; exact hI10.out, hK10.out⟩
                                | false =>
                                  have hty : Hid (itN false yam = [iA yam]) := Lib.hid (by unfold itN; rw [if_neg h0]; rfl)
                                  clear h0
                                  go_wp2_with (at_builtin; go_loud (refine itL1 (W := W9) (.tmp 206) (.tmp 211) _ L9 w (iA yam) rfl rfl rfl rfl hI9.out (by have := hl7.out; have := hl9.out; omega) rfl ?_); intro a10 c10 n10 W10 hn10 hI10 hK10; replace hI10 := Lib.hid hI10; replace hn10 := Lib.hid hn10; replace hK10 := Lib.hid hK10)
                                  go_meet
                                  exact ⟨n10, a10, c10, rfl, by rw [hty.out]; exact hn10.out, by rw [hty.out]; exact hI10.out, hK10.out⟩
                            case rest =>
                              clear d0 d1 d2 d3 hI9 hn9
                              obtain ⟨n10, a10, c10, rfl, hn10, hI10, hK10⟩ := hcut
                              obtain ⟨W10, rfl⟩ : ∃ y, y = wc := ⟨_, rfl⟩
                              have hS10 := Lib.hid (hK10 _ _ _ (by decide) hS9.out)
                              have hT10 := Lib.hid (hK10 _ _ _ (by decide) hT9.out)
                              have hU10 := Lib.hid (hK10 _ _ _ (by decide) hU9.out)
                              clear hK10 hS9 hT9 hU9
                              obtain ⟨L10, hL10⟩ : ∃ y, L9 ++ itN mb yam = y := ⟨_, rfl⟩
                              rw [hL10] at hn10 hI10
                              have hl10 : Hid (L10.length ≤ L7.length + 3) := Lib.hid (by have := hl9.out; rw [← hL10, List.length_append]; have : (itN mb yam).length ≤ 1 := itN_le _ _; omega)
                              replace hL10 := Lib.hid hL10; replace hn10 := Lib.hid hn10; replace hI10 := Lib.hid hI10
                              obtain ⟨d0, d1, d2, d3⟩ := new_segs4 hU10.out
                              go_wp2
                              clear d0 d1 d2 d3
                              refine wp_loop (fun az wr => ∃ u : Nat → Value, IsA az (U359 u) ∧ u 0 = .slice (some ⟨b, o, none⟩) n cc ∧ u 12 = .int .i64 (k : Nat) ∧ u 13 = .pointer (some ⟨C13, 0, none⟩) ∧ u 14 = .int .i64 (j : Nat) ∧ u 15 = .pointer (some ⟨C15b, 0, none⟩) ∧ u 16 = .int .i64 (k2 : Nat) ∧ u 17 = .pointer (some ⟨C17, 0, none⟩) ∧ R6 L10 ynm r w C13 C15b C17 #[.int .u8 xcb, .int .u8 xty, .int .u8 xam, .slice (some ⟨nb, no, none⟩) m c'] #[.bool true, .int .u8 kd, .string nm, .slice (some ⟨ib, io, none⟩) p ic] #[.int .u8 ycb, .int .u8 yty, .int .u8 yam, .slice ya r yc] (u 11) (u 19) wr) (fun az wr => r - (intOf (az.tmps.getD 19 undef)).toNat) ?_ ?_
                              · refine ⟨_, am359 _ rfl, ?_⟩
                                exact ⟨rfl, rfl, rfl, rfl, rfl, rfl, rfl, 0, n10, a10, c10, by omega, rfl, rfl, by simpa using hn10.out, by simpa using hI10.out, hS10.out, hT10.out, hU10.out⟩
                              · rintro ac wr ⟨u, hA, l0, l12, l13, l14, l15, l16, l17, hrel⟩
                                obtain rfl : ac = ⟨U359 u, []⟩ := hA
                                clear hI10 hn10 hS10 hT10 hU10
                                obtain ⟨q, n11, a11, c11, hq, ei, ev, hn11, hI11, hS11, hT11, hU11⟩ := hrel
                                rw [show (⟨U359 u, []⟩ : Act) = ⟨#[.slice (some ⟨b, o, none⟩) n cc, u 1, u 2, u 3, u 4, u 5, u 6, u 7, u 8, u 9, u 10, .slice a11 n11 c11, .int .i64 (k : Nat), .pointer (some ⟨C13, 0, none⟩), .int .i64 (j : Nat), .pointer (some ⟨C15b, 0, none⟩), .int .i64 (k2 : Nat), .pointer (some ⟨C17, 0, none⟩), u 18, .int .i64 (q : Nat), u 20, u 21, u 22, u 23, u 24, u 25, u 26, u 27, u 28, u 29, u 30, u 31, u 32, u 33, u 34, u 35, u 36, u 37, u 38, u 39, u 40, u 41, u 42, u 43, u 44, u 45, u 46, u 47, u 48, u 49, u 50, u 51, u 52, u 53, u 54, u 55, u 56, u 57, u 58, u 59, u 60, u 61, u 62, u 63, u 64, u 65, u 66, u 67, u 68, u 69, u 70, u 71, u 72, u 73, u 74, u 75, u 76, u 77, u 78, u 79, u 80, u 81, u 82, u 83, u 84, u 85, u 86, u 87, u 88, u 89, u 90, u 91, u 92, u 93, u 94, u 95, u 96, u 97, u 98, u 99, u 100, u 101, u 102, u 103, u 104, u 105, u 106, u 107, u 108, u 109, u 110, u 111, u 112, u 113, u 114, u 115, u 116, u 117, u 118, u 119, u 120, u 121, u 122, u 123, u 124, u 125, u 126, u 127, u 128, u 129, u 130, u 131, u 132, u 133, u 134, u 135, u 136, u 137, u 138, u 139, u 140, u 141, u 142, u 143, u 144, u 145, u 146, u 147, u 148, u 149, u 150, u 151, u 152, u 153, u 154, u 155, u 156, u 157, u 158, u 159, u 160, u 161, u 162, u 163, u 164, u 165, u 166, u 167, u 168, u 169, u 170, u 171, u 172, u 173, u 174, u 175, u 176, u 177, u 178, u 179, u 180, u 181, u 182, u 183, u 184, u 185, u 186, u 187, u 188, u 189, u 190, u 191, u 192, u 193, u 194, u 195, u 196, u 197, u 198, u 199, u 200, u 201, u 202, u 203, u 204, u 205, u 206, u 207, u 208, u 209, u 210, u 211, u 212, u 213, u 214, u 215, u 216, u 217, u 218, u 219, u 220, u 221, u 222, u 223, u 224, u 225, u 226, u 227, u 228, u 229, u 230, u 231, u 232, u 233, u 234, u 235, u 236, u 237, u 238, u 239, u 240, u 241, u 242, u 243, u 244, u 245, u 246, u 247, u 248, u 249, u 250, u 251, u 252, u 253, u 254, u 255, u 256, u 257, u 258, u 259, u 260, u 261, u 262, u 263, u 264, u 265, u 266, u 267, u 268, u 269, u 270, u 271, u 272, u 273, u 274, u 275, u 276, u 277, u 278, u 279, u 280, u 281, u 282, u 283, u 284, u 285, u 286, u 287, u 288, u 289, u 290, u 291, u 292, u 293, u 294, u 295, u 296, u 297, u 298, u 299, u 300, u 301, u 302, u 303, u 304, u 305, u 306, u 307, u 308, u 309, u 310, u 311, u 312, u 313, u 314, u 315, u 316, u 317, u 318, u 319, u 320, u 321, u 322, u 323, u 324, u 325, u 326, u 327, u 328, u 329, u 330, u 331, u 332, u 333, u 334, u 335, u 336, u 337, u 338, u 339, u 340, u 341, u 342, u 343, u 344, u 345, u 346, u 347, u 348, u 349, u 350, u 351, u 352, u 353, u 354, u 355, u 356, u 357, u 358], []⟩ by simp only [U359, l0, l12, l13, l14, l15, l16, l17, ei, ev]]
                                clear l0 l12 l13 l14 l15 l16 l17 ei ev
                                obtain ⟨W11, rfl⟩ : ∃ y, y = wr := ⟨_, rfl⟩
                                obtain ⟨L11, hL11⟩ : ∃ y, L10 ++ (ynm.take q).map (fun s => iS (dotN s)) = y := ⟨_, rfl⟩
                                rw [hL11] at hn11 hI11
                                replace hn11 := Lib.hid hn11; replace hI11 := Lib.hid hI11; replace hS11 := Lib.hid hS11; replace hT11 := Lib.hid hT11; replace hU11 := Lib.hid hU11
                                have hl11 : Hid (L11.length ≤ L7.length + 3 + q) := Lib.hid (by have := hl10.out; rw [← hL11, List.length_append, List.length_map, List.length_take]; omega)
                                replace hL11 := Lib.hid hL11
                                obtain ⟨d0, d1, d2, d3⟩ := new_segs4 hU11.out
                                by_cases hltq : q < r
                                · obtain ⟨s, hsq⟩ : ∃ s, ynm[q]? = some s := ⟨_, List.getElem?_eq_getElem (by rw [hr.out]; exact hltq)⟩
                                  obtain ⟨sb, so, eya, hcs, -⟩ := (hRNy.out.after hI11.out.2) q s hsq
                                  subst eya
                                  have hms : Hid ((ynm.take (q + 1)).map (fun s => iS (dotN s)) = (ynm.take q).map (fun s => iS (dotN s)) ++ [iS (dotN s)]) := Lib.hid (mapt (f := fun s => iS (dotN s)) hsq)
                                  have hss := hyz.out s (List.mem_of_getElem? hsq)
                                  have q1 : ¬ (9223372036854775807 < 1 + s.size) := by omega
                                  clear hsq hss
                                  have j0 : (0 : Int) ≤ q := by omega
                                  have j1 : (q : Int) < r := by omega
                                  have hjn : q ≤ 20000000 := by omega
                                  go_wp2_with (at_builtin; go_loud (refine itL1 (W := W11) (.tmp 220) (.tmp 228) _ L11 w (iS (dotN s)) rfl rfl rfl rfl hI11.out (by have := hl7.out; have := hl11.out; omega) rfl ?_); intro a12 c12 n12 W12 hn12 hI12 hK12; replace hI12 := Lib.hid hI12; replace hn12 := Lib.hid hn12; replace hK12 := Lib.hid hK12)
                                  refine ⟨⟨_, am359 _ rfl, ?_⟩, ?_⟩
                                  · exact ⟨rfl, rfl, rfl, rfl, rfl, rfl, rfl, q + 1, n12, a12, c12, by omega, num1 _, rfl, by rw [hms.out, ← List.append_assoc, hL11.out]; exact hn12.out, by rw [hms.out, ← List.append_assoc, hL11.out]; exact hI12.out, hK12.out _ _ _ (by decide) hS11.out, hK12.out _ _ _ (by decide) hT11.out, hK12.out _ _ _ (by decide) hU11.out⟩
                                  · simp [intOf]; omega
                                · obtain rfl : q = r := by omega
                                  have hall : Hid (L11 = L7 ++ itI mb yk) := Lib.hid (by
                                    rw [← hL11.out, List.take_of_length_le (by rw [hr.out]; exact Nat.le_refl _), ← hL10.out, ← hL9.out, ← hL8.out, hyk.out]
                                    simp [itI])
                                  rw [hall.out] at hn11 hI11
                                  go_wp2
                                  refine ⟨⟨_, am359 _ rfl, ?_⟩, ?_⟩
                                  · exact ⟨rfl, rfl, rfl, rfl, rfl, k2 + 1, n11, a11, c11, by omega, num1 _, rfl, by rw [hik.out]; exact hn11.out, by rw [hik.out]; exact hI11.out, hS11.out, hT11.out⟩
                                  · simp [intOf]; omega
                    · obtain rfl : k2 = p := by omega
                      have hfin : Hid (L5 ++ ((xss.take (j + 1)).map Zs.key).flatMap itS = L7) := Lib.hid (by rw [hjt.out, ← hL7.out, List.take_of_length_le (by rw [hp.out]; exact Nat.le_refl _)])
                      go_wp2
                      refine ⟨⟨_, am359 _ rfl, ?_⟩, ?_⟩
                      · exact ⟨rfl, rfl, rfl, j + 1, n7, a7, c7, by omega, num1 _, rfl, by rw [hfin.out]; exact hn7.out, by rw [hfin.out]; exact hI7.out, hS7.out⟩
                      · simp [intOf]; omega
            · obtain rfl : j = m := by omega
              have hfin : Hid (itsOf (l.take (k + 1)) = L6) := Lib.hid (by
                rw [htk.out, ← hL6.out, List.take_of_length_le (by rw [hm.out]; exact Nat.le_refl _), ← hL5.out, ← hL4.out, ← hL3.out]
                simp)
              go_wp2
              refine ⟨⟨_, am359 _ rfl, ?_⟩, ?_⟩
              · exact ⟨rfl, k + 1, n6, a6, c6, by omega, num1 _, rfl, by rw [hfin.out]; exact hn6.out, by rw [hfin.out]; exact hI6.out⟩
              · simp [intOf]; omega
    · obtain rfl : k = n := by omega
      have hall : itsOf l = L1 := by rw [← hL1.out, List.take_of_length_le (by rw [hn.out]; exact Nat.le_refl _)]
      rw [← hall] at hI hnI
      clear hL1 hall
      have hlenI : Hid ((itsOf l).length = nI) := Lib.hid hnI.out.symm
      have hnI2 : nI ≤ 20000000 := by rw [← hlenI.out]; exact hLen.out
      go_wp2
      refine wp_loop (fun az wr => ∃ u : Nat → Value, IsA az (U359 u) ∧ u 11 = .slice aI nI cI ∧ R7 l nI w (.slice aI nI cI) (u 20) (u 21) wr) (fun az wr => nI - (intOf (az.tmps.getD 21 undef)).toNat) ?_ ?_
      · refine ⟨_, am359 _ rfl, ?_⟩
        exact ⟨rfl, 0, 0, none, 0, [], by omega, rfl, rfl, rfl, ⟨⟨World.ownsRow_nil _ _ _ _, rfl, fun j r g hr _ => by simp at hr⟩, fun i r z hr => by simp at hr, fun g hg => by cases hg⟩, hI.out, fun h => absurd h (Nat.lt_irrefl 0)⟩
      · rintro ac wr ⟨u, hA, l11, hrel⟩
        obtain rfl : ac = ⟨U359 u, []⟩ := hA
        clear hI
        obtain ⟨q, gn, ga, gc, rs, hq, ei, ev, hgn, hG, hI, hne⟩ := hrel
        rw [show (⟨U359 u, []⟩ : Act) = ⟨#[u 0, u 1, u 2, u 3, u 4, u 5, u 6, u 7, u 8, u 9, u 10, .slice aI nI cI, u 12, u 13, u 14, u 15, u 16, u 17, u 18, u 19, .slice ga gn gc, .int .i64 (q : Nat), u 22, u 23, u 24, u 25, u 26, u 27, u 28, u 29, u 30, u 31, u 32, u 33, u 34, u 35, u 36, u 37, u 38, u 39, u 40, u 41, u 42, u 43, u 44, u 45, u 46, u 47, u 48, u 49, u 50, u 51, u 52, u 53, u 54, u 55, u 56, u 57, u 58, u 59, u 60, u 61, u 62, u 63, u 64, u 65, u 66, u 67, u 68, u 69, u 70, u 71, u 72, u 73, u 74, u 75, u 76, u 77, u 78, u 79, u 80, u 81, u 82, u 83, u 84, u 85, u 86, u 87, u 88, u 89, u 90, u 91, u 92, u 93, u 94, u 95, u 96, u 97, u 98, u 99, u 100, u 101, u 102, u 103, u 104, u 105, u 106, u 107, u 108, u 109, u 110, u 111, u 112, u 113, u 114, u 115, u 116, u 117, u 118, u 119, u 120, u 121, u 122, u 123, u 124, u 125, u 126, u 127, u 128, u 129, u 130, u 131, u 132, u 133, u 134, u 135, u 136, u 137, u 138, u 139, u 140, u 141, u 142, u 143, u 144, u 145, u 146, u 147, u 148, u 149, u 150, u 151, u 152, u 153, u 154, u 155, u 156, u 157, u 158, u 159, u 160, u 161, u 162, u 163, u 164, u 165, u 166, u 167, u 168, u 169, u 170, u 171, u 172, u 173, u 174, u 175, u 176, u 177, u 178, u 179, u 180, u 181, u 182, u 183, u 184, u 185, u 186, u 187, u 188, u 189, u 190, u 191, u 192, u 193, u 194, u 195, u 196, u 197, u 198, u 199, u 200, u 201, u 202, u 203, u 204, u 205, u 206, u 207, u 208, u 209, u 210, u 211, u 212, u 213, u 214, u 215, u 216, u 217, u 218, u 219, u 220, u 221, u 222, u 223, u 224, u 225, u 226, u 227, u 228, u 229, u 230, u 231, u 232, u 233, u 234, u 235, u 236, u 237, u 238, u 239, u 240, u 241, u 242, u 243, u 244, u 245, u 246, u 247, u 248, u 249, u 250, u 251, u 252, u 253, u 254, u 255, u 256, u 257, u 258, u 259, u 260, u 261, u 262, u 263, u 264, u 265, u 266, u 267, u 268, u 269, u 270, u 271, u 272, u 273, u 274, u 275, u 276, u 277, u 278, u 279, u 280, u 281, u 282, u 283, u 284, u 285, u 286, u 287, u 288, u 289, u 290, u 291, u 292, u 293, u 294, u 295, u 296, u 297, u 298, u 299, u 300, u 301, u 302, u 303, u 304, u 305, u 306, u 307, u 308, u 309, u 310, u 311, u 312, u 313, u 314, u 315, u 316, u 317, u 318, u 319, u 320, u 321, u 322, u 323, u 324, u 325, u 326, u 327, u 328, u 329, u 330, u 331, u 332, u 333, u 334, u 335, u 336, u 337, u 338, u 339, u 340, u 341, u 342, u 343, u 344, u 345, u 346, u 347, u 348, u 349, u 350, u 351, u 352, u 353, u 354, u 355, u 356, u 357, u 358], []⟩ by simp only [U359, l11, ei, ev]]
        clear l11 ei ev
        obtain ⟨W1, rfl⟩ : ∃ y, y = wr := ⟨_, rfl⟩
        obtain ⟨gs, hgs⟩ : ∃ y, ((itsOf l).take q).foldl gsL [] = y := ⟨_, rfl⟩
        rw [hgs] at hgn hG hne
        replace hgs := Lib.hid hgs; replace hG := Lib.hid hG; replace hI := Lib.hid hI; replace hgn := Lib.hid hgn; replace hne := Lib.hid hne
        by_cases hltq : q < nI
        · obtain ⟨it, hit⟩ : ∃ it, (itsOf l)[q]? = some it := ⟨_, List.getElem?_eq_getElem (by rw [hlenI.out]; exact hltq)⟩
          have hstep : Hid (((itsOf l).take (q + 1)).foldl gsL [] = gsL gs it) := Lib.hid (by rw [foldl_take gsL [] hit, hgs.out])
          obtain ⟨hin1, hin2⟩ := hIt.out it (List.mem_of_getElem? hit)
          have hfst : Hid (gs ≠ [] ∨ it.tg = 66) := Lib.hid (by
            rcases Nat.eq_zero_or_pos q with e | e
            · right; subst e; exact its_first hit
            · exact .inl (hne.out e))
          have hown : W1.ownsRow w.heap.size 119 4 (.slice aI nI cI) nI (flat It.cells (itsOf l)) := by have := hI.out.1; rw [hlenI.out] at this; exact this
          obtain ⟨ib, ic2, eI, -⟩ := own_some hown (by omega)
          injection eI with eI1 _ eI3
          subst eI1 eI3
          have hseg : Seg W1 ib (q * 4) it.cells := own_seg hown (fun i v hi => by
            have hj4 : i < 4 := by have := (List.getElem?_eq_some_iff.1 hi).1; simpa [It.cells] using this
            rw [flat_at It.cells 4 (fun _ => rfl) (itsOf l) q i it hit hj4]
            exact hi)
          obtain ⟨tg, icb, is, inn⟩ := it
          simp only at hin1 hin2
          obtain ⟨e0, e1, e2, e3⟩ := segs4' (show Seg W1 ib (q * 4) [.int .u8 tg, .int .u8 icb, .string is, .int .i64 inn] from hseg)
          replace hit := Lib.hid hit
          clear hseg hown
          have i0 : (0 : Int) ≤ q := by omega
          have i1 : (q : Int) < nI := by omega
          go_upto_region 57 with fail
          refine wp_gen (fun W2 hW => ?_)
          have b2 : Hid (Below W1.heap.size W1 W2) := Lib.hid (by rw [hW]; exact ba _ _)
          have hC2 : Hid (NewAt W2 W1.heap.size #[.int .u8 tg, .int .u8 icb, .string is, .int .i64 inn] 119) := Lib.hid (by rw [hW]; exact newA _ _ _)
          clear hW e0 e1 e2 e3
          have hG2 := Lib.hid (hG.out.after b2.out)
          have hI2 := Lib.hid (hI.out.after b2.out)
          obtain ⟨C22, hC22⟩ : ∃ y, W1.heap.size = y := ⟨_, rfl⟩
          rw [hC22] at hC2 ⊢
          clear hC22 b2 hG hI
          obtain ⟨e0, e1, e2, e3⟩ := new_segs4 hC2.out
          have hwz : w.heap.size ≤ W2.heap.size := hI2.out.2.size
          by_cases h66 : tg = 66
          · subst h66
            have hgl : Hid (gs.length = gn) := Lib.hid hgn.out.symm
            have hgb2 : gn ≤ 1048576 := by
              have h1 := gsF_len ((itsOf l).drop q) (((itsOf l).take q).foldl gsL [])
              rw [← List.foldl_append, List.take_append_drop, hgs.out] at h1
              have := hGl.out
              have := hgl.out
              omega
            have hO2 := Lib.hid hG2.out.1.1
            rw [hgl.out] at hO2
            go_wp2_with (at_builtin; go_loud (refine app1q (W := W2) (.tmp 243) (.tmp 247) 34 114 w.heap.size 5 64 #[.int .u8 0, .string ⟨#[]⟩, .int .i64 0, .slice none 0 0, .bool false] [.int .u8 icb, .string ⟨#[]⟩, .int .i64 0, .slice none 0 0, .bool false] _ gn _ rfl rfl rfl rfl rfl Try.underlying34 info114 rfl (by omega) hO2.out rfl (by simp [Value.oneCell']) (by omega) (by omega) hwz ?_); intro v8 w8 hO8 hkp hnew; obtain ⟨g8, c8, hu, -⟩ := own_some hO8 (by omega); subst hu; replace hO8 := Lib.hid hO8; replace hkp := Lib.hid hkp; replace hnew := Lib.hid hnew)
            have hP := hG2.out.push (K' := 255 * (q + 1)) (c := icb) (by omega) (by rw [hgl.out]; exact hO8.out) hkp.out
            have hst : gsL gs ⟨66, icb, is, inn⟩ = gs ++ [newG icb] := by simp [gsL]
            have hI8 : ItB (.slice (some ⟨ib, 0, none⟩) nI cI) (itsOf l) w w8 := ⟨hkp.out.own hI2.out.1 (own_ne hI2.out.1 hO2.out (by decide)), hI2.out.2.trans (hkp.out.below hwz (fun b q => (hO2.out.lt b q).1))⟩
            replace hP := Lib.hid hP; replace hI8 := Lib.hid hI8
            have hlen8 : Hid (gn + 1 = (gs ++ [newG icb]).length) := Lib.hid (by rw [List.length_append, hgl.out]; rfl)
            replace hst := Lib.hid hst
            refine ⟨⟨_, am359 _ rfl, ?_⟩, ?_⟩
            · exact ⟨rfl, q + 1, gn + 1, some ⟨g8, 0, none⟩, c8, _, by omega, num1 _, rfl, by rw [hstep.out, hst.out]; exact hlen8.out, by rw [hstep.out, hst.out]; exact hP.out, hI8.out, fun _ => by rw [hstep.out, hst.out]; simp⟩
            · simp [intOf]; omega
          · have hgne := hfst.out.resolve_right h66
            obtain ⟨gb, rs0, r, gs0, g, ea, ers, egs, egn, hl0, hrd⟩ := hG2.out.last hgne
            subst ea ers egs
            obtain ⟨q0, hq0⟩ : ∃ y, gs0.length = y := ⟨_, rfl⟩
            rw [hq0] at egn hl0
            subst egn
            obtain ⟨sa, sc, hsl⟩ := own_head hrd.2.2.2.2
            have hown2 := hG2.out.1.1
            have hseg : Seg W2 gb (q0 * 5) r.cells := own_seg (by rw [List.length_append, hq0] at hown2; exact hown2) (fun i v hi => by
              have hj5 : i < 5 := by have := (List.getElem?_eq_some_iff.1 hi).1; simpa [GR.cells] using this
              rw [flat_at GR.cells 5 (fun _ => rfl) (rs0 ++ [r]) q0 i r (by rw [List.getElem?_append_right (by omega), hl0]; simp) hj5]
              exact hi)
            obtain ⟨rcb, rty, rnn, rsv, rwe⟩ := r
            simp only at hsl
            obtain ⟨sn, hsn'⟩ : ∃ y, g.ks.length = y := ⟨_, rfl⟩
            rw [hsn'] at hsl
            obtain ⟨g0, g1, g2, g3, g4⟩ := segs5 (show Seg W2 gb (q0 * 5) [.int .u8 rcb, .string rty, .int .i64 rnn, .slice sa sn sc, .bool rwe] by rw [← hsl]; exact hseg)
            replace hrd := Lib.hid hrd; replace hsn' := Lib.hid hsn'; replace hsl := Lib.hid hsl; replace hq0 := Lib.hid hq0; replace hl0 := Lib.hid hl0
            have hst : Hid (gsL (gs0 ++ [g]) ⟨tg, icb, is, inn⟩ = gs0 ++ [gst g ⟨tg, icb, is, inn⟩]) := Lib.hid (gsL_o _ _ _ h66)
            have hnn : Hid (rnn = g.nn) := Lib.hid hrd.out.2.2.1
            have hty : Hid (rty = g.ty) := Lib.hid hrd.out.2.1
            have q66 : (tg == 66) = false := by simp [h66]
            have hlen2 : (gs0 ++ [g]).length = q0 + 1 := by rw [List.length_append, hq0.out]; rfl
            rw [hlen2] at hown2
            have f1 := hown2.frozenAt (q0 * 5 + 1)
            have f2 := hown2.frozenAt (q0 * 5 + 2)
            have hgn1 : q0 + 1 ≤ 1048576 := by
              have h1 := gsF_len ((itsOf l).drop q) (((itsOf l).take q).foldl gsL [])
              rw [← List.foldl_append, List.take_append_drop, hgs.out, hlen2] at h1
              have := hGl.out
              omega
            have hgnn : g.nn ≤ 255 * q := hG2.out.2.2 g (by simp)
            have hsnb : Hid (sn ≤ 20000000) := Lib.hid (by rw [← hsn'.out]; have := ksF_len (itsOf l) q g (by rw [hgs.out]; simp); omega)
            have hrnn : rnn ≤ 255 * q := by rw [hnn.out]; exact hgnn
            have hown3 := Lib.hid hown2
            clear hseg hown2 hfst hgne
            have hGr : Hid (GRd W2 w.heap.size ⟨rcb, rty, rnn, rsv, rwe⟩ g) := hrd
            replace hlen2 := Lib.hid hlen2; replace hgnn := Lib.hid hgnn; replace hown3 := Lib.hid hown3
            by_cases h84 : tg = 84
            · subst h84
              by_cases hE : g.ty = ⟨#[]⟩
              · have hr0 : rty = ⟨#[]⟩ := by rw [hty.out, hE]
                have hgst : Hid (gst g ⟨84, icb, is, inn⟩ = ⟨g.cb, is, g.nn, g.ks, g.we⟩) := Lib.hid (by simp [gst, hE])
                have qe : rty.toList.isEmpty = true := by rw [emB, hr0]; rfl
                clear hr0
                have hfin := Grs.fin (w7 := W2) (w8 := W2.setCell ⟨gb, q0 * 5 + 1, none⟩ (.string is)) (r' := ⟨rcb, is, rnn, rsv, rwe⟩) (g' := ⟨g.cb, is, g.nn, g.ks, g.we⟩) hit.out hltq hgs.out h66 hq0.out hl0.out hG2.out hI2.out hGr.out (Kp.refl _) (fun k q => .inl q) ⟨1, .string is, rfl, rfl, by omega⟩ ⟨hGr.out.1, rfl, hGr.out.2.2.1, hGr.out.2.2.2.1, hGr.out.2.2.2.2⟩ (by have : g.nn ≤ 255 * q := hgnn.out; show g.nn ≤ _; omega) hgst.out
                replace hfin := Lib.hid hfin
                clear hE hgst h66
                go_wp2
                refine ⟨⟨_, am359 _ rfl, ?_⟩, ?_⟩
                · exact ⟨rfl, hfin.out⟩
                · simp [intOf]; omega
              · have hr0 : ¬ rty = ⟨#[]⟩ := by rw [hty.out]; exact hE
                have hgst : Hid (gst g ⟨84, icb, is, inn⟩ = ⟨g.cb, g.ty, g.nn, g.ks ++ [encIs is], g.we⟩) := Lib.hid (by simp [gst, hE])
                have qe : rty.toList.isEmpty = false := by rw [emB]; simp [hr0]
                obtain ⟨ex, hex⟩ : ∃ y, encIs is = y := ⟨_, rfl⟩
                have C25 := Lib.hid (fun W => is25_c is (hin2 rfl) W)
                rw [hex] at C25 hgst
                clear hr0 hex hE
                go_upto_region 65 with fail
                have hps : PsOk [(fun v _ => v = .pointer (some ⟨gb, q0 * 5, none⟩)), (fun v _ => v = .pointer (some ⟨gb, q0 * 5, none⟩)), (fun v _ => v = .pointer (some ⟨gb, q0 * 5, none⟩)), (fun v _ => v = .pointer (some ⟨gb, q0 * 5 + 3, none⟩)), (fun v _ => v = .slice sa sn sc), (fun v _ => v = .pointer (some ⟨C22, 2, none⟩)), (fun v _ => v = .string is), (fun v _ => v = .string ex), (fun v W => ∃ bk : Nat, v = .slice (some ⟨bk, 0, none⟩) 1 1 ∧ W2.heap.size ≤ bk ∧ NewAt W bk #[.string ex] 9)] := PsOk.eq (PsOk.eq (PsOk.eq (PsOk.eq (PsOk.eq (PsOk.eq (PsOk.eq (PsOk.eq (PsOk.cons (fun v W W' hb ⟨bk, e1, e2, e3⟩ => ⟨bk, e1, e2, NewAt.after e3 hb⟩) (PsOk.nil)))))))))
                refine QTail.drawn_rel_late 9 0 (PsR [(fun v _ => v = .pointer (some ⟨gb, q0 * 5, none⟩)), (fun v _ => v = .pointer (some ⟨gb, q0 * 5, none⟩)), (fun v _ => v = .pointer (some ⟨gb, q0 * 5, none⟩)), (fun v _ => v = .pointer (some ⟨gb, q0 * 5 + 3, none⟩)), (fun v _ => v = .slice sa sn sc), (fun v _ => v = .pointer (some ⟨C22, 2, none⟩)), (fun v _ => v = .string is), (fun v _ => v = .string ex), (fun v W => ∃ bk : Nat, v = .slice (some ⟨bk, 0, none⟩) 1 1 ∧ W2.heap.size ≤ bk ∧ NewAt W bk #[.string ex] 9)]) (by kernel_rfl) (by kernel_rfl) (by kernel_rfl) (fun i v W W' h1 h2 => PsR.after hps i v W W' h1 h2) ?_ ?_
                · clear hps
                  simp only [List.take_succ_cons, List.take_zero]
                  refine ⟨?_, ?_, ?_, ?_, ?_, ?_, ?_, ?_, ?_, trivial⟩
                  all_goals intro vs W' hC hd
                  · clear hd hC
                    simp only [QTail.putA, Nat.reduceAdd, Act.put, List.setIfInBounds_toArray, List.set_cons_succ, List.set_cons_zero]
                    go_wp2
                    exact ⟨rfl, Below.refl _ _⟩
                  · clear hd hC
                    simp only [QTail.putA, Nat.reduceAdd, Act.put, List.setIfInBounds_toArray, List.set_cons_succ, List.set_cons_zero]
                    go_wp2
                    exact ⟨rfl, Below.refl _ _⟩
                  · have e1 : vs 1 = .pointer (some ⟨gb, q0 * 5, none⟩) := hd { on := 1, ground := Ground.data } (by simp) rfl
                    clear hd hC
                    simp only [QTail.putA, Nat.reduceAdd, Act.put, List.setIfInBounds_toArray, List.set_cons_succ, List.set_cons_zero]
                    rw [e1]
                    go_wp2
                    exact ⟨rfl, Below.refl _ _⟩
                  · have e2 : vs 2 = .pointer (some ⟨gb, q0 * 5, none⟩) := hd { on := 2, ground := Ground.data } (by simp) rfl
                    clear hd hC
                    simp only [QTail.putA, Nat.reduceAdd, Act.put, List.setIfInBounds_toArray, List.set_cons_succ, List.set_cons_zero]
                    rw [e2]
                    go_wp2
                    exact ⟨rfl, Below.refl _ _⟩
                  · have e3 : vs 3 = .pointer (some ⟨gb, q0 * 5 + 3, none⟩) := hd { on := 3, ground := Ground.data } (by simp) rfl
                    replace g3 := ac hC g3
                    clear hd hC
                    simp only [QTail.putA, Nat.reduceAdd, Act.put, List.setIfInBounds_toArray, List.set_cons_succ, List.set_cons_zero]
                    rw [e3]
                    go_wp2
                    exact ⟨rfl, Below.refl _ _⟩
                  · clear hd hC
                    simp only [QTail.putA, Nat.reduceAdd, Act.put, List.setIfInBounds_toArray, List.set_cons_succ, List.set_cons_zero]
                    go_wp2
                    exact ⟨rfl, Below.refl _ _⟩
                  · have e5 : vs 5 = .pointer (some ⟨C22, 2, none⟩) := hd { on := 5, ground := Ground.data } (by simp) rfl
                    replace e2 := ac hC e2
                    clear hd hC
                    simp only [QTail.putA, Nat.reduceAdd, Act.put, List.setIfInBounds_toArray, List.set_cons_succ, List.set_cons_zero]
                    rw [e5]
                    go_wp2
                    exact ⟨rfl, Below.refl _ _⟩
                  · have e6 : vs 6 = .string is := hd { on := 6, ground := Ground.data } (by simp) rfl
                    clear hd hC
                    simp only [QTail.putA, Nat.reduceAdd, Act.put, List.setIfInBounds_toArray, List.set_cons_succ, List.set_cons_zero]
                    rw [e6]
                    go_wp2_with (go_at_call 25; (with_reducible refine (C25.out _).mono ?_); rintro e w5 ⟨rfl, rfl⟩)
                    exact ⟨rfl, Below.refl _ _⟩
                  · have e7 : vs 7 = .string ex := hd { on := 7, ground := Ground.data } (by simp) rfl
                    have hC' := Lib.hid hC
                    clear hd hC
                    simp only [QTail.putA, Nat.reduceAdd, Act.put, List.setIfInBounds_toArray, List.set_cons_succ, List.set_cons_zero]
                    rw [e7]
                    go_wp2
                    exact ⟨⟨_, rfl, hC'.out.size, newA _ _ _⟩, ba _ _⟩
                · clear hps
                  intro QL hQL vs W3 b3 hR
                  have e0 : vs 0 = .pointer (some ⟨gb, q0 * 5, none⟩) := hR 0 (by omega)
                  have e4 : vs 4 = .slice sa sn sc := hR 4 (by omega)
                  obtain ⟨bk, e8, hbk, hnb⟩ : ∃ bk : Nat, vs 8 = .slice (some ⟨bk, 0, none⟩) 1 1 ∧ W2.heap.size ≤ bk ∧ NewAt W3 bk #[.string ex] 9 := hR 8 (by omega)
                  replace hnb := Lib.hid hnb
                  replace b3 := Lib.hid b3
                  clear hR
                  simp only [List.take_succ_cons, List.take_zero, List.drop_succ_cons, List.drop_zero, QTail.putA, Nat.reduceAdd, Act.put, List.setIfInBounds_toArray, List.set_cons_succ, List.set_cons_zero]
                  rw [e0]
                  rw [e4]
                  rw [e8]
                  clear e0 e4 e8
                  generalize vs 1 = zz1
                  generalize vs 2 = zz2
                  generalize vs 3 = zz3
                  generalize vs 5 = zz5
                  generalize vs 6 = zz6
                  generalize vs 7 = zz7
                  clear vs
                  have hG3 := Lib.hid (hG2.out.after b3.out)
                  have hgr3 := Lib.hid (hGr.out.after b3.out)
                  have zW3 := b3.out.size
                  have hO3 : Hid (W3.ownsRow w.heap.size 9 1 (.slice sa sn sc) sn (strs g.ks)) := Lib.hid (by have h1 := hgr3.out.2.2.2.2; rw [hsn'.out] at h1; simp only at h1; rw [hsl.out] at h1; exact h1)
                  have hown3' := Lib.hid (own_below hown3.out b3.out)
                  have w3v := ac b3.out g3
                  have f3' := hown3'.out.frozenAt (q0 * 5 + 3)
                  clear g0 g1 g2 g3 g4 e0 e1 e2 e3 f1 f2
                  have hgbn : Hid (¬ Ob (.slice sa sn sc) gb) := Lib.hid (fun q => own_ne hO3.out hown3'.out (by decide) gb q rfl)
                  have hwz3 : w.heap.size ≤ W3.heap.size := by omega
                  have hsnb2 := hsnb.out
                  go_wp2_with (at_builtin; go_loud (refine app1gq (W := W3) (.tmp 283) (.tmp 287) 46 9 w.heap.size 1 16 #[.string ⟨#[]⟩] [.string ex] bk _ sn _ rfl rfl rfl rfl hnb.out Try.underlying46 info9 rfl (by omega) hO3.out rfl (by simp [Value.oneCell']) (by omega) (by omega) hwz3 ?_); intro v' W5 hO5 hkp hnew; obtain ⟨a5, c5, hu⟩ := own_head hO5; subst hu; have w5' := hkp.cell w3v hgbn.out; have f5' := hkp.froz w3v f3' hgbn.out; replace hO5 := Lib.hid hO5; replace hkp := Lib.hid hkp; replace hnew := Lib.hid hnew)
                  have hfin := Grs.fin (w7 := W5) (w8 := W5.setCell ⟨gb, q0 * 5 + 3, none⟩ (.slice a5 (sn + 1) c5)) (r' := ⟨rcb, rty, rnn, .slice a5 (sn + 1) c5, rwe⟩) (g' := ⟨g.cb, g.ty, g.nn, g.ks ++ [ex], g.we⟩) hit.out hltq hgs.out h66 hq0.out hl0.out hG2.out hI2.out hGr.out ((Kp.of b3.out).trans (by have := hkp.out; rw [← hsl.out] at this; exact this)) (fun k q => by
                    rcases hnew.out k q with q | q
                    · left; show Ob rsv k; rw [hsl.out]; exact q
                    · right; omega) ⟨3, _, rfl, rfl, by omega⟩ ⟨hGr.out.1, hGr.out.2.1, hGr.out.2.2.1, hGr.out.2.2.2.1, by
                    show World.ownsRow _ _ 9 1 _ (g.ks ++ [ex]).length (strs (g.ks ++ [ex]))
                    rw [List.length_append, hsn'.out, strs, List.map_append]
                    exact hO5.out⟩ (by have : g.nn ≤ 255 * q := hgnn.out; show g.nn ≤ _; omega) hgst.out
                  replace hfin := Lib.hid hfin
                  refine ⟨⟨_, am359 _ rfl, ?_⟩, ?_⟩
                  · exact ⟨rfl, hfin.out⟩
                  · simp [intOf]; omega
            · have q84 : (tg == 84) = false := by simp [h84]
              by_cases h65 : tg = 65
              · subst h65
                have hgst : Hid (gst g ⟨65, icb, is, inn⟩ = ⟨g.cb, g.ty, g.nn + inn, g.ks, g.we⟩) := Lib.hid (by simp [gst])
                have hwr := wr64 (x := (rnn : Int) + inn) (by omega) (by omega)
                have hwr2 := wk64 (x := (rnn : Int) + inn) (by omega) (by omega)
                clear h84
                go_upto_region 67 with fail
                have hps : PsOk [(fun v _ => v = .pointer (some ⟨gb, q0 * 5, none⟩)), (fun v _ => v = .pointer (some ⟨gb, q0 * 5, none⟩)), (fun v _ => v = .pointer (some ⟨gb, q0 * 5 + 2, none⟩)), (fun v _ => v = .int .i64 rnn), (fun v _ => v = .pointer (some ⟨C22, 3, none⟩)), (fun v _ => v = .int .i64 inn), (fun v _ => v = .int .i64 ((rnn : Int) + inn))] := PsOk.eq (PsOk.eq (PsOk.eq (PsOk.eq (PsOk.eq (PsOk.eq (PsOk.eq (PsOk.nil)))))))
                refine QTail.drawn_rel 7 (PsR [(fun v _ => v = .pointer (some ⟨gb, q0 * 5, none⟩)), (fun v _ => v = .pointer (some ⟨gb, q0 * 5, none⟩)), (fun v _ => v = .pointer (some ⟨gb, q0 * 5 + 2, none⟩)), (fun v _ => v = .int .i64 rnn), (fun v _ => v = .pointer (some ⟨C22, 3, none⟩)), (fun v _ => v = .int .i64 inn), (fun v _ => v = .int .i64 ((rnn : Int) + inn))]) (by kernel_rfl) (by kernel_rfl) (fun i v W W' h1 h2 => PsR.after hps i v W W' h1 h2) ?_ ?_
                · clear hps
                  simp only [List.take_succ_cons, List.take_zero]
                  refine ⟨?_, ?_, ?_, ?_, ?_, ?_, ?_, trivial⟩
                  all_goals intro vs W' hC hd
                  · clear hd hC
                    simp only [QTail.putA, Nat.reduceAdd, Act.put, List.setIfInBounds_toArray, List.set_cons_succ, List.set_cons_zero]
                    go_wp2
                    exact ⟨rfl, Below.refl _ _⟩
                  · have e0 : vs 0 = .pointer (some ⟨gb, q0 * 5, none⟩) := hd { on := 0, ground := Ground.data } (by simp) rfl
                    clear hd hC
                    simp only [QTail.putA, Nat.reduceAdd, Act.put, List.setIfInBounds_toArray, List.set_cons_succ, List.set_cons_zero]
                    rw [e0]
                    go_wp2
                    exact ⟨rfl, Below.refl _ _⟩
                  · have e1 : vs 1 = .pointer (some ⟨gb, q0 * 5, none⟩) := hd { on := 1, ground := Ground.data } (by simp) rfl
                    clear hd hC
                    simp only [QTail.putA, Nat.reduceAdd, Act.put, List.setIfInBounds_toArray, List.set_cons_succ, List.set_cons_zero]
                    rw [e1]
                    go_wp2
                    exact ⟨rfl, Below.refl _ _⟩
                  · have e2 : vs 2 = .pointer (some ⟨gb, q0 * 5 + 2, none⟩) := hd { on := 2, ground := Ground.data } (by simp) rfl
                    replace g2 := ac hC g2
                    clear hd hC
                    simp only [QTail.putA, Nat.reduceAdd, Act.put, List.setIfInBounds_toArray, List.set_cons_succ, List.set_cons_zero]
                    rw [e2]
                    go_wp2
                    exact ⟨rfl, Below.refl _ _⟩
                  · clear hd hC
                    simp only [QTail.putA, Nat.reduceAdd, Act.put, List.setIfInBounds_toArray, List.set_cons_succ, List.set_cons_zero]
                    go_wp2
                    exact ⟨rfl, Below.refl _ _⟩
                  · have e4 : vs 4 = .pointer (some ⟨C22, 3, none⟩) := hd { on := 4, ground := Ground.data } (by simp) rfl
                    replace e3 := ac hC e3
                    clear hd hC
                    simp only [QTail.putA, Nat.reduceAdd, Act.put, List.setIfInBounds_toArray, List.set_cons_succ, List.set_cons_zero]
                    rw [e4]
                    go_wp2
                    exact ⟨rfl, Below.refl _ _⟩
                  · have e3 : vs 3 = .int .i64 rnn := hd { on := 3, ground := Ground.data } (by simp) rfl
                    have e5 : vs 5 = .int .i64 inn := hd { on := 5, ground := Ground.data } (by simp) rfl
                    clear hd hC
                    simp only [QTail.putA, Nat.reduceAdd, Act.put, List.setIfInBounds_toArray, List.set_cons_succ, List.set_cons_zero]
                    rw [e3]
                    rw [e5]
                    go_wp2
                    exact ⟨rfl, Below.refl _ _⟩
                · clear hps
                  intro vs W3 b3 hR
                  have e0 : vs 0 = .pointer (some ⟨gb, q0 * 5, none⟩) := hR 0 (by omega)
                  have e6 : vs 6 = .int .i64 ((rnn : Int) + inn) := hR 6 (by omega)
                  replace b3 := Lib.hid b3
                  clear hR
                  simp only [List.take_succ_cons, List.take_zero, List.drop_succ_cons, List.drop_zero, QTail.putA, Nat.reduceAdd, Act.put, List.setIfInBounds_toArray, List.set_cons_succ, List.set_cons_zero]
                  rw [e0]
                  rw [e6]
                  clear e0 e6
                  generalize vs 1 = zz1
                  generalize vs 2 = zz2
                  generalize vs 3 = zz3
                  generalize vs 4 = zz4
                  generalize vs 5 = zz5
                  clear vs
                  have zW3 := b3.out.size
                  have hG3 := Lib.hid (hG2.out.after b3.out)
                  have hI3 := Lib.hid (hI2.out.after b3.out)
                  have hgr3 := Lib.hid (hGr.out.after b3.out)
                  have g2' := ac b3.out g2
                  have f2' := (own_below hown3.out b3.out).frozenAt (q0 * 5 + 2)
                  have hfin := Grs.fin (w7 := W3) (w8 := W3.setCell ⟨gb, q0 * 5 + 2, none⟩ (.int .i64 ((rnn : Int) + inn))) (r' := ⟨rcb, rty, rnn + inn, rsv, rwe⟩) (g' := ⟨g.cb, g.ty, g.nn + inn, g.ks, g.we⟩) hit.out hltq hgs.out h66 hq0.out hl0.out hG2.out hI2.out hGr.out (Kp.of b3.out) (fun k q => .inl q) ⟨2, _, rfl, by simp [GR.cells], by omega⟩ ⟨hgr3.out.1, hgr3.out.2.1, by show rnn + inn = g.nn + inn; rw [hnn.out], hgr3.out.2.2.2.1, hgr3.out.2.2.2.2⟩ (by have : g.nn ≤ 255 * q := hgnn.out; show g.nn + inn ≤ _; omega) hgst.out
                  replace hfin := Lib.hid hfin
                  clear g0 g1 g2 g3 g4 e0 e1 e2 e3 f1 f2 hgst
                  go_wp2
                  refine ⟨⟨_, am359 _ rfl, ?_⟩, ?_⟩
                  · exact ⟨rfl, hfin.out⟩
                  · simp [intOf]; omega
              · have q65 : (tg == 65) = false := by simp [h65]
                by_cases h77 : tg = 77
                · subst h77
                  by_cases hz : g.nn = 0
                  · have hr0 : rnn = 0 := by rw [hnn.out, hz]
                    have qz : ((rnn : Int) == 0) = true := by simp [hr0]
                    have hgst : Hid (gst g ⟨77, icb, is, inn⟩ = ⟨g.cb, g.ty, inn, g.ks, g.we⟩) := Lib.hid (by simp [gst, hz])
                    have hfin := Grs.fin (w7 := W2) (w8 := W2.setCell ⟨gb, q0 * 5 + 2, none⟩ (.int .i64 inn)) (r' := ⟨rcb, rty, inn, rsv, rwe⟩) (g' := ⟨g.cb, g.ty, inn, g.ks, g.we⟩) hit.out hltq hgs.out h66 hq0.out hl0.out hG2.out hI2.out hGr.out (Kp.refl _) (fun k q => .inl q) ⟨2, .int .i64 inn, rfl, rfl, by omega⟩ ⟨hGr.out.1, hGr.out.2.1, rfl, hGr.out.2.2.2.1, hGr.out.2.2.2.2⟩ (by show inn ≤ _; omega) hgst.out
                    replace hfin := Lib.hid hfin
                    clear hr0 hz hgst h84 h65
                    go_wp2
                    refine ⟨⟨_, am359 _ rfl, ?_⟩, ?_⟩
                    · exact ⟨rfl, hfin.out⟩
                    · simp [intOf]; omega
                  · have qz : ((rnn : Int) == 0) = false := by rw [hnn.out]; simp [hz]
                    have hgst : Hid (gst g ⟨77, icb, is, inn⟩ = g) := Lib.hid (by simp [gst, hz])
                    have hfin := Grs.keepG' hit.out hltq hgs.out h66 hq0.out hG2.out hI2.out hgst.out
                    replace hfin := Lib.hid hfin
                    clear hz hgst h84 h65
                    go_wp2
                    refine ⟨⟨_, am359 _ rfl, ?_⟩, ?_⟩
                    · exact ⟨rfl, hfin.out⟩
                    · simp [intOf]; omega
                · have q77 : (tg == 77) = false := by simp [h77]
                  have hgst : Hid (gst g ⟨tg, icb, is, inn⟩ = ⟨g.cb, g.ty, g.nn, g.ks ++ [is], g.we⟩) := Lib.hid (by simp [gst, h84, h65, h77])
                  clear h84 h65 h77
                  go_upto_region 61 with fail
                  have hps : PsOk [(fun v _ => v = .pointer (some ⟨gb, q0 * 5, none⟩)), (fun v _ => v = .pointer (some ⟨gb, q0 * 5, none⟩)), (fun v _ => v = .pointer (some ⟨gb, q0 * 5, none⟩)), (fun v _ => v = .pointer (some ⟨gb, q0 * 5 + 3, none⟩)), (fun v _ => v = .slice sa sn sc), (fun v _ => v = .pointer (some ⟨C22, 2, none⟩)), (fun v _ => v = .string is), (fun v W => ∃ bk : Nat, v = .slice (some ⟨bk, 0, none⟩) 1 1 ∧ W2.heap.size ≤ bk ∧ NewAt W bk #[.string is] 9)] := PsOk.eq (PsOk.eq (PsOk.eq (PsOk.eq (PsOk.eq (PsOk.eq (PsOk.eq (PsOk.cons (fun v W W' hb ⟨bk, e1, e2, e3⟩ => ⟨bk, e1, e2, NewAt.after e3 hb⟩) (PsOk.nil))))))))
                  refine QTail.drawn_rel_late 8 0 (PsR [(fun v _ => v = .pointer (some ⟨gb, q0 * 5, none⟩)), (fun v _ => v = .pointer (some ⟨gb, q0 * 5, none⟩)), (fun v _ => v = .pointer (some ⟨gb, q0 * 5, none⟩)), (fun v _ => v = .pointer (some ⟨gb, q0 * 5 + 3, none⟩)), (fun v _ => v = .slice sa sn sc), (fun v _ => v = .pointer (some ⟨C22, 2, none⟩)), (fun v _ => v = .string is), (fun v W => ∃ bk : Nat, v = .slice (some ⟨bk, 0, none⟩) 1 1 ∧ W2.heap.size ≤ bk ∧ NewAt W bk #[.string is] 9)]) (by kernel_rfl) (by kernel_rfl) (by kernel_rfl) (fun i v W W' h1 h2 => PsR.after hps i v W W' h1 h2) ?_ ?_
                  · clear hps
                    simp only [List.take_succ_cons, List.take_zero]
                    refine ⟨?_, ?_, ?_, ?_, ?_, ?_, ?_, ?_, trivial⟩
                    all_goals intro vs W' hC hd
                    · clear hd hC
                      simp only [QTail.putA, Nat.reduceAdd, Act.put, List.setIfInBounds_toArray, List.set_cons_succ, List.set_cons_zero]
                      go_wp2
                      exact ⟨rfl, Below.refl _ _⟩
                    · clear hd hC
                      simp only [QTail.putA, Nat.reduceAdd, Act.put, List.setIfInBounds_toArray, List.set_cons_succ, List.set_cons_zero]
                      go_wp2
                      exact ⟨rfl, Below.refl _ _⟩
                    · have e1 : vs 1 = .pointer (some ⟨gb, q0 * 5, none⟩) := hd { on := 1, ground := Ground.data } (by simp) rfl
                      clear hd hC
                      simp only [QTail.putA, Nat.reduceAdd, Act.put, List.setIfInBounds_toArray, List.set_cons_succ, List.set_cons_zero]
                      rw [e1]
                      go_wp2
                      exact ⟨rfl, Below.refl _ _⟩
                    · have e2 : vs 2 = .pointer (some ⟨gb, q0 * 5, none⟩) := hd { on := 2, ground := Ground.data } (by simp) rfl
                      clear hd hC
                      simp only [QTail.putA, Nat.reduceAdd, Act.put, List.setIfInBounds_toArray, List.set_cons_succ, List.set_cons_zero]
                      rw [e2]
                      go_wp2
                      exact ⟨rfl, Below.refl _ _⟩
                    · have e3 : vs 3 = .pointer (some ⟨gb, q0 * 5 + 3, none⟩) := hd { on := 3, ground := Ground.data } (by simp) rfl
                      replace g3 := ac hC g3
                      clear hd hC
                      simp only [QTail.putA, Nat.reduceAdd, Act.put, List.setIfInBounds_toArray, List.set_cons_succ, List.set_cons_zero]
                      rw [e3]
                      go_wp2
                      exact ⟨rfl, Below.refl _ _⟩
                    · clear hd hC
                      simp only [QTail.putA, Nat.reduceAdd, Act.put, List.setIfInBounds_toArray, List.set_cons_succ, List.set_cons_zero]
                      go_wp2
                      exact ⟨rfl, Below.refl _ _⟩
                    · have e5 : vs 5 = .pointer (some ⟨C22, 2, none⟩) := hd { on := 5, ground := Ground.data } (by simp) rfl
                      replace e2 := ac hC e2
                      clear hd hC
                      simp only [QTail.putA, Nat.reduceAdd, Act.put, List.setIfInBounds_toArray, List.set_cons_succ, List.set_cons_zero]
                      rw [e5]
                      go_wp2
                      exact ⟨rfl, Below.refl _ _⟩
                    · have e6 : vs 6 = .string is := hd { on := 6, ground := Ground.data } (by simp) rfl
                      have hC' := Lib.hid hC
                      clear hd hC
                      simp only [QTail.putA, Nat.reduceAdd, Act.put, List.setIfInBounds_toArray, List.set_cons_succ, List.set_cons_zero]
                      rw [e6]
                      go_wp2
                      exact ⟨⟨_, rfl, hC'.out.size, newA _ _ _⟩, ba _ _⟩
                  · clear hps
                    intro QL hQL vs W3 b3 hR
                    have e0 : vs 0 = .pointer (some ⟨gb, q0 * 5, none⟩) := hR 0 (by omega)
                    have e4 : vs 4 = .slice sa sn sc := hR 4 (by omega)
                    obtain ⟨bk, e7, hbk, hnb⟩ : ∃ bk : Nat, vs 7 = .slice (some ⟨bk, 0, none⟩) 1 1 ∧ W2.heap.size ≤ bk ∧ NewAt W3 bk #[.string is] 9 := hR 7 (by omega)
                    replace hnb := Lib.hid hnb
                    replace b3 := Lib.hid b3
                    clear hR
                    simp only [List.take_succ_cons, List.take_zero, List.drop_succ_cons, List.drop_zero, QTail.putA, Nat.reduceAdd, Act.put, List.setIfInBounds_toArray, List.set_cons_succ, List.set_cons_zero]
                    rw [e0]
                    rw [e4]
                    rw [e7]
                    clear e0 e4 e7
                    generalize vs 1 = zz1
                    generalize vs 2 = zz2
                    generalize vs 3 = zz3
                    generalize vs 5 = zz5
                    generalize vs 6 = zz6
                    clear vs
                    have hG3 := Lib.hid (hG2.out.after b3.out)
                    have hgr3 := Lib.hid (hGr.out.after b3.out)
                    have zW3 := b3.out.size
                    have hO3 : Hid (W3.ownsRow w.heap.size 9 1 (.slice sa sn sc) sn (strs g.ks)) := Lib.hid (by have h1 := hgr3.out.2.2.2.2; rw [hsn'.out] at h1; simp only at h1; rw [hsl.out] at h1; exact h1)
                    have hown3' := Lib.hid (own_below hown3.out b3.out)
                    have w3v := ac b3.out g3
                    have f3' := hown3'.out.frozenAt (q0 * 5 + 3)
                    clear g0 g1 g2 g3 g4 e0 e1 e2 e3 f1 f2
                    have hgbn : Hid (¬ Ob (.slice sa sn sc) gb) := Lib.hid (fun q => own_ne hO3.out hown3'.out (by decide) gb q rfl)
                    have hwz3 : w.heap.size ≤ W3.heap.size := by omega
                    have hsnb2 := hsnb.out
                    go_wp2_with (at_builtin; go_loud (refine app1gq (W := W3) (.tmp 260) (.tmp 263) 46 9 w.heap.size 1 16 #[.string ⟨#[]⟩] [.string is] bk _ sn _ rfl rfl rfl rfl hnb.out Try.underlying46 info9 rfl (by omega) hO3.out rfl (by simp [Value.oneCell']) (by omega) (by omega) hwz3 ?_); intro v' W5 hO5 hkp hnew; obtain ⟨a5, c5, hu⟩ := own_head hO5; subst hu; have w5' := hkp.cell w3v hgbn.out; have f5' := hkp.froz w3v f3' hgbn.out; replace hO5 := Lib.hid hO5; replace hkp := Lib.hid hkp; replace hnew := Lib.hid hnew)
                    have hfin := Grs.fin (w7 := W5) (w8 := W5.setCell ⟨gb, q0 * 5 + 3, none⟩ (.slice a5 (sn + 1) c5)) (r' := ⟨rcb, rty, rnn, .slice a5 (sn + 1) c5, rwe⟩) (g' := ⟨g.cb, g.ty, g.nn, g.ks ++ [is], g.we⟩) hit.out hltq hgs.out h66 hq0.out hl0.out hG2.out hI2.out hGr.out ((Kp.of b3.out).trans (by have := hkp.out; rw [← hsl.out] at this; exact this)) (fun k q => by
                      rcases hnew.out k q with q | q
                      · left; show Ob rsv k; rw [hsl.out]; exact q
                      · right; omega) ⟨3, _, rfl, rfl, by omega⟩ ⟨hGr.out.1, hGr.out.2.1, hGr.out.2.2.1, hGr.out.2.2.2.1, by
                      show World.ownsRow _ _ 9 1 _ (g.ks ++ [is]).length (strs (g.ks ++ [is]))
                      rw [List.length_append, hsn'.out, strs, List.map_append]
                      exact hO5.out⟩ (by have : g.nn ≤ 255 * q := hgnn.out; show g.nn ≤ _; omega) hgst.out
                    replace hfin := Lib.hid hfin
                    refine ⟨⟨_, am359 _ rfl, ?_⟩, ?_⟩
                    · exact ⟨rfl, hfin.out⟩
                    · simp [intOf]; omega
        · obtain rfl : q = nI := by omega
          have hGG : Hid ((itsOf l).foldl gsL [] = gs) := Lib.hid (by rw [← hgs.out, List.take_of_length_le (by rw [hlenI.out]; exact Nat.le_refl _)])
          have hgl : Hid (gs.length = gn) := Lib.hid hgn.out.symm
          have hgb2 : gn ≤ 1048576 := by rw [← hgl.out, ← hGG.out]; exact hGl.out
          have mk := make0_z (P := Try.prog) #[.int .u8 0, .string ⟨#[]⟩, .int .i64 0, .slice none 0 0, .bool false] Try.underlying34 info114 gn (by omega) (by omega)
          go_upto_region 72 with fail
          clear mk
          refine wp_gen (fun W2 hW => ?_)
          have b2 : Hid (Below W1.heap.size W1 W2) := Lib.hid (by rw [hW]; exact ba _ _)
          have hO : Hid (W2.ownsRow w.heap.size 114 5 (.slice (some ⟨W1.heap.size, 0, none⟩) 0 gn) 0 []) := Lib.hid (by
            rw [hW]
            have := World.ownsRow_made (base := w.heap.size) (e := 114) (size := 5) W1 (madeCells #[.int .u8 0, .string ⟨#[]⟩, .int .i64 0, .slice none 0 0, .bool false] (gn * 5)) gn hI.out.2.size (by unfold maxLen; omega) (by rw [size_madeCells])
            simpa using this)
          clear hW
          have hG2 := Lib.hid (hG.out.1.after b2.out)
          have hbw := Lib.hid (hI.out.2.trans (b2.out.mono hI.out.2.size))
          have hdis : Hid (∀ b, Ob (.slice (some ⟨W1.heap.size, 0, none⟩) 0 gn) b → ¬ Ob (.slice ga gn gc) b) := Lib.hid (fun b q1 q2 => by
            have h1 := (hG.out.1.1.lt b q2).2
            simp [Ob, Value.ownBlock] at q1
            omega)
          obtain ⟨k0, hk0⟩ : ∃ y, W1.heap.size = y := ⟨_, rfl⟩
          rw [hk0] at hO hdis ⊢
          clear hk0 hG b2 hI
          go_wp2
          refine wp_loop (fun az wr => ∃ u : Nat → Value, IsA az (U359 u) ∧ u 20 = .slice ga gn gc ∧ R8 gs rs gn w (.slice ga gn gc) (u 24) (u 25) wr) (fun az wr => gn - (intOf (az.tmps.getD 25 undef)).toNat) ?_ ?_
          · refine ⟨_, am359 _ rfl, ?_⟩
            exact ⟨rfl, 0, 0, some ⟨k0, 0, none⟩, gn, [], by omega, rfl, rfl, rfl, ⟨hO.out, rfl, fun j r g hr _ => by simp at hr⟩, hG2.out, hdis.out, hbw.out⟩
          · rintro ac wr ⟨u, hA, l20, hrel⟩
            obtain rfl : ac = ⟨U359 u, []⟩ := hA
            clear hO hG2 hdis hbw
            obtain ⟨p, kn, ka, kc, rk, hp, ei, ev, hkn, hK, hG, hdis, hbw⟩ := hrel
            rw [show (⟨U359 u, []⟩ : Act) = ⟨#[u 0, u 1, u 2, u 3, u 4, u 5, u 6, u 7, u 8, u 9, u 10, u 11, u 12, u 13, u 14, u 15, u 16, u 17, u 18, u 19, .slice ga gn gc, u 21, u 22, u 23, .slice ka kn kc, .int .i64 (p : Nat), u 26, u 27, u 28, u 29, u 30, u 31, u 32, u 33, u 34, u 35, u 36, u 37, u 38, u 39, u 40, u 41, u 42, u 43, u 44, u 45, u 46, u 47, u 48, u 49, u 50, u 51, u 52, u 53, u 54, u 55, u 56, u 57, u 58, u 59, u 60, u 61, u 62, u 63, u 64, u 65, u 66, u 67, u 68, u 69, u 70, u 71, u 72, u 73, u 74, u 75, u 76, u 77, u 78, u 79, u 80, u 81, u 82, u 83, u 84, u 85, u 86, u 87, u 88, u 89, u 90, u 91, u 92, u 93, u 94, u 95, u 96, u 97, u 98, u 99, u 100, u 101, u 102, u 103, u 104, u 105, u 106, u 107, u 108, u 109, u 110, u 111, u 112, u 113, u 114, u 115, u 116, u 117, u 118, u 119, u 120, u 121, u 122, u 123, u 124, u 125, u 126, u 127, u 128, u 129, u 130, u 131, u 132, u 133, u 134, u 135, u 136, u 137, u 138, u 139, u 140, u 141, u 142, u 143, u 144, u 145, u 146, u 147, u 148, u 149, u 150, u 151, u 152, u 153, u 154, u 155, u 156, u 157, u 158, u 159, u 160, u 161, u 162, u 163, u 164, u 165, u 166, u 167, u 168, u 169, u 170, u 171, u 172, u 173, u 174, u 175, u 176, u 177, u 178, u 179, u 180, u 181, u 182, u 183, u 184, u 185, u 186, u 187, u 188, u 189, u 190, u 191, u 192, u 193, u 194, u 195, u 196, u 197, u 198, u 199, u 200, u 201, u 202, u 203, u 204, u 205, u 206, u 207, u 208, u 209, u 210, u 211, u 212, u 213, u 214, u 215, u 216, u 217, u 218, u 219, u 220, u 221, u 222, u 223, u 224, u 225, u 226, u 227, u 228, u 229, u 230, u 231, u 232, u 233, u 234, u 235, u 236, u 237, u 238, u 239, u 240, u 241, u 242, u 243, u 244, u 245, u 246, u 247, u 248, u 249, u 250, u 251, u 252, u 253, u 254, u 255, u 256, u 257, u 258, u 259, u 260, u 261, u 262, u 263, u 264, u 265, u 266, u 267, u 268, u 269, u 270, u 271, u 272, u 273, u 274, u 275, u 276, u 277, u 278, u 279, u 280, u 281, u 282, u 283, u 284, u 285, u 286, u 287, u 288, u 289, u 290, u 291, u 292, u 293, u 294, u 295, u 296, u 297, u 298, u 299, u 300, u 301, u 302, u 303, u 304, u 305, u 306, u 307, u 308, u 309, u 310, u 311, u 312, u 313, u 314, u 315, u 316, u 317, u 318, u 319, u 320, u 321, u 322, u 323, u 324, u 325, u 326, u 327, u 328, u 329, u 330, u 331, u 332, u 333, u 334, u 335, u 336, u 337, u 338, u 339, u 340, u 341, u 342, u 343, u 344, u 345, u 346, u 347, u 348, u 349, u 350, u 351, u 352, u 353, u 354, u 355, u 356, u 357, u 358], []⟩ by simp only [U359, l20, ei, ev]]
            clear l20 ei ev
            obtain ⟨W3, rfl⟩ : ∃ y, y = wr := ⟨_, rfl⟩
            replace hkn := Lib.hid hkn; replace hK := Lib.hid hK; replace hG := Lib.hid hG; replace hdis := Lib.hid hdis; replace hbw := Lib.hid hbw
            by_cases hltp : p < gn
            · obtain ⟨g, hg⟩ : ∃ g, gs[p]? = some g := ⟨_, List.getElem?_eq_getElem (by rw [hgl.out]; exact hltp)⟩
              obtain ⟨r, hr⟩ : ∃ r, rs[p]? = some r := ⟨_, List.getElem?_eq_getElem (by rw [hG.out.2.1, hgl.out]; exact hltp)⟩
              have hrd := Lib.hid (hG.out.2.2 p r g hr hg)
              have hkt := Lib.hid (keepG_take hg)
              have hownG := hG.out.1
              rw [hgl.out] at hownG
              obtain ⟨gb, gc2, eG, -⟩ := own_some hownG (by omega)
              injection eG with eG1 _ eG3
              subst eG1 eG3
              have hseg : Seg W3 gb (p * 5) r.cells := own_seg hownG (fun i v hi => by
                have hj5 : i < 5 := by have := (List.getElem?_eq_some_iff.1 hi).1; simpa [GR.cells] using this
                rw [flat_at GR.cells 5 (fun _ => rfl) rs p i r hr hj5]
                exact hi)
              obtain ⟨sa, sc, hsl⟩ := own_head hrd.out.2.2.2.2
              obtain ⟨rcb, rty, rnn, rsv, rwe⟩ := r
              simp only at hsl
              subst hsl
              obtain ⟨sn, hsn⟩ : ∃ y, g.ks.length = y := ⟨_, rfl⟩
              obtain ⟨g0, g1, g2, g3, g4⟩ := segs5 (show Seg W3 gb (p * 5) [.int .u8 rcb, .string rty, .int .i64 rnn, .slice sa sn sc, .bool rwe] by rw [← hsn]; exact hseg)
              rw [hsn] at hrd
              have ht : Hid (rty = g.ty ∧ rnn = g.nn) := Lib.hid ⟨hrd.out.2.1, hrd.out.2.2.1⟩
              have hsnn := Lib.hid hsn
              have hknp : kn ≤ 1048576 := by have := keepG_le gs p; have := hkn.out; omega
              have hkl : Hid ((keepG (gs.take p)).length = kn) := Lib.hid hkn.out.symm
              have hOk := Lib.hid hK.out.1
              rw [hkl.out] at hOk
              have hwz : w.heap.size ≤ W3.heap.size := hbw.out.size
              have j0 : (0 : Int) ≤ p := by omega
              have j1 : (p : Int) < gn := by omega
              have hpn : p ≤ 1048576 := by omega
              clear hg hr hownG hseg hsn
              by_cases hA : rty = ⟨#[]⟩
              · have qe : rty.toList.isEmpty = true := by rw [emB, hA]; rfl
                by_cases hB : 0 < rnn
                · have qn : (0 : Int) < rnn := by omega
                  have hf : Hid (full1 g = true) := Lib.hid (by have h1 := ht.out.2; unfold full1; rw [← h1, decide_eq_true hB]; simp)
                  clear hA
                  rw [hf.out, if_pos rfl] at hkt
                  go_wp2_with (at_builtin; go_loud (refine app1n (w := W3) (.tmp 346) (.tmp 351) 34 114 w.heap.size 5 64 #[.int .u8 0, .string ⟨#[]⟩, .int .i64 0, .slice none 0 0, .bool false] #[.int .u8 rcb, .string rty, .int .i64 rnn, .slice sa sn sc, .bool rwe] _ kn _ rfl rfl rfl rfl rfl Try.underlying34 info114 rfl (by omega) hOk.out rfl (by simp [Value.oneCell']) hknp (by omega) hwz ?_); intro v8 w8 hO8 hkp hnew; obtain ⟨g8, c8, hu, -⟩ := own_some hO8 (by omega); subst hu; replace hO8 := Lib.hid hO8; replace hkp := Lib.hid hkp; replace hnew := Lib.hid hnew)
                  have hP := hK.out.push (Below.refl _ _) hrd.out (by rw [hkl.out]; exact hO8.out) hkp.out
                  rw [← hkt.out] at hP
                  have hlen8 : Hid (kn + 1 = (keepG (gs.take (p + 1))).length) := Lib.hid (by rw [hkt.out, List.length_append, hkl.out]; rfl)
                  have hG8 := Lib.hid (hG.out.keepO hOk.out hkp.out (fun b q1 q2 => hdis.out b q2 q1))
                  have hd8 : Hid (∀ b, Ob (.slice (some ⟨g8, 0, none⟩) (kn + 1) c8) b → ¬ Ob (.slice (some ⟨gb, 0, none⟩) gn gc) b) := Lib.hid (fun b q1 q2 => by
                    rcases hnew.out b q1 with q3 | q3
                    · exact hdis.out b q3 q2
                    · have := (hG.out.1.lt b q2).2; omega)
                  have hb8 := Lib.hid (hbw.out.trans (hkp.out.below hwz (fun b q => (hOk.out.lt b q).1)))
                  replace hP := Lib.hid hP
                  refine ⟨⟨_, am359 _ rfl, ?_⟩, ?_⟩
                  · exact ⟨rfl, p + 1, kn + 1, some ⟨g8, 0, none⟩, c8, _, by omega, num1 _, rfl, hlen8.out, hP.out, hG8.out, hd8.out, hb8.out⟩
                  · simp [intOf]; omega
                · have hB0 : rnn = 0 := by omega
                  by_cases hC : 0 < sn
                  · have qn : (0 : Int) < sn := by omega
                    have hf : Hid (full1 g = true) := Lib.hid (by have h1 := hsnn.out; unfold full1; rw [h1, decide_eq_false (show ¬ sn = 0 by omega)]; simp)
                    clear hA
                    subst hB0
                    rw [hf.out, if_pos rfl] at hkt
                    go_wp2_with (at_builtin; go_loud (refine app1n (w := W3) (.tmp 346) (.tmp 351) 34 114 w.heap.size 5 64 #[.int .u8 0, .string ⟨#[]⟩, .int .i64 0, .slice none 0 0, .bool false] #[.int .u8 rcb, .string rty, .int .i64 ((0 : Nat) : Int), .slice sa sn sc, .bool rwe] _ kn _ rfl rfl rfl rfl rfl Try.underlying34 info114 rfl (by omega) hOk.out rfl (by simp [Value.oneCell']) hknp (by omega) hwz ?_); intro v8 w8 hO8 hkp hnew; obtain ⟨g8, c8, hu, -⟩ := own_some hO8 (by omega); subst hu; replace hO8 := Lib.hid hO8; replace hkp := Lib.hid hkp; replace hnew := Lib.hid hnew)
                    have hP := hK.out.push (Below.refl _ _) hrd.out (by rw [hkl.out]; exact hO8.out) hkp.out
                    rw [← hkt.out] at hP
                    have hlen8 : Hid (kn + 1 = (keepG (gs.take (p + 1))).length) := Lib.hid (by rw [hkt.out, List.length_append, hkl.out]; rfl)
                    have hG8 := Lib.hid (hG.out.keepO hOk.out hkp.out (fun b q1 q2 => hdis.out b q2 q1))
                    have hd8 : Hid (∀ b, Ob (.slice (some ⟨g8, 0, none⟩) (kn + 1) c8) b → ¬ Ob (.slice (some ⟨gb, 0, none⟩) gn gc) b) := Lib.hid (fun b q1 q2 => by
                      rcases hnew.out b q1 with q3 | q3
                      · exact hdis.out b q3 q2
                      · have := (hG.out.1.lt b q2).2; omega)
                    have hb8 := Lib.hid (hbw.out.trans (hkp.out.below hwz (fun b q => (hOk.out.lt b q).1)))
                    replace hP := Lib.hid hP
                    refine ⟨⟨_, am359 _ rfl, ?_⟩, ?_⟩
                    · exact ⟨rfl, p + 1, kn + 1, some ⟨g8, 0, none⟩, c8, _, by omega, num1 _, rfl, hlen8.out, hP.out, hG8.out, hd8.out, hb8.out⟩
                    · simp [intOf]; omega
                  · have hC0 : sn = 0 := by omega
                    have hf : Hid (full1 g = false) := Lib.hid (by have h1 := hsnn.out; have h2 := ht.out; unfold full1; rw [h1, ← h2.1, ← h2.2, hA, hB0, hC0]; rfl)
                    clear hA
                    subst hB0
                    subst hC0
                    rw [hf.out] at hkt
                    simp only [Bool.false_eq_true, if_false, List.append_nil] at hkt
                    go_wp2
                    refine ⟨⟨_, am359 _ rfl, ?_⟩, ?_⟩
                    · exact ⟨rfl, p + 1, kn, ka, kc, rk, by omega, num1 _, rfl, by rw [hkt.out]; exact hkn.out, by rw [hkt.out]; exact hK.out, hG.out, hdis.out, hbw.out⟩
                    · simp [intOf]; omega
              · have qe : rty.toList.isEmpty = false := by rw [emB]; simp [hA]
                have hf : Hid (full1 g = true) := Lib.hid (by have h1 := ht.out.1; unfold full1; rw [← h1, decide_eq_false hA]; simp)
                clear hA
                rw [hf.out, if_pos rfl] at hkt
                go_wp2_with (at_builtin; go_loud (refine app1n (w := W3) (.tmp 346) (.tmp 351) 34 114 w.heap.size 5 64 #[.int .u8 0, .string ⟨#[]⟩, .int .i64 0, .slice none 0 0, .bool false] #[.int .u8 rcb, .string rty, .int .i64 rnn, .slice sa sn sc, .bool rwe] _ kn _ rfl rfl rfl rfl rfl Try.underlying34 info114 rfl (by omega) hOk.out rfl (by simp [Value.oneCell']) hknp (by omega) hwz ?_); intro v8 w8 hO8 hkp hnew; obtain ⟨g8, c8, hu, -⟩ := own_some hO8 (by omega); subst hu; replace hO8 := Lib.hid hO8; replace hkp := Lib.hid hkp; replace hnew := Lib.hid hnew)
                have hP := hK.out.push (Below.refl _ _) hrd.out (by rw [hkl.out]; exact hO8.out) hkp.out
                rw [← hkt.out] at hP
                have hlen8 : Hid (kn + 1 = (keepG (gs.take (p + 1))).length) := Lib.hid (by rw [hkt.out, List.length_append, hkl.out]; rfl)
                have hG8 := Lib.hid (hG.out.keepO hOk.out hkp.out (fun b q1 q2 => hdis.out b q2 q1))
                have hd8 : Hid (∀ b, Ob (.slice (some ⟨g8, 0, none⟩) (kn + 1) c8) b → ¬ Ob (.slice (some ⟨gb, 0, none⟩) gn gc) b) := Lib.hid (fun b q1 q2 => by
                  rcases hnew.out b q1 with q3 | q3
                  · exact hdis.out b q3 q2
                  · have := (hG.out.1.lt b q2).2; omega)
                have hb8 := Lib.hid (hbw.out.trans (hkp.out.below hwz (fun b q => (hOk.out.lt b q).1)))
                replace hP := Lib.hid hP
                refine ⟨⟨_, am359 _ rfl, ?_⟩, ?_⟩
                · exact ⟨rfl, p + 1, kn + 1, some ⟨g8, 0, none⟩, c8, _, by omega, num1 _, rfl, hlen8.out, hP.out, hG8.out, hd8.out, hb8.out⟩
                · simp [intOf]; omega
            · obtain rfl : p = gn := by omega
              have hall : Hid (keepG (gs.take p) = keepG gs) := Lib.hid (by rw [List.take_of_length_le (by rw [hgl.out]; exact Nat.le_refl _)])
              rw [hall.out] at hkn hK
              rw [← hGG.out] at hkn hK
              by_cases hk0 : kn = 0
              · subst hk0
                have hnil : Hid (keepG ((itsOf l).foldl gsL []) = []) := Lib.hid (List.eq_nil_of_length_eq_zero hkn.out.symm)
                go_wp2
                refine bodyPost_ret (v := .tuple #[.slice (some ⟨W3.heap.size, 0, none⟩) 1 1, .bool true]) (by simp [results, Try.results11, go_sem]) rfl (.inl ⟨hnil.out, _, [⟨0, ⟨#[]⟩, 1, .slice none 0 0, true⟩], rfl, ⟨?_, rfl, fun j r g hr hg => ?_⟩, hbw.out.trans ((ba _ _).mono hbw.out.size)⟩)
                · exact World.ownsRow_lit W3 #[.int .u8 0, .string ⟨#[]⟩, .int .i64 1, .slice none 0 0, .bool true] 1 hbw.out.size (by unfold maxLen; omega) rfl
                · cases j with
                  | zero =>
                    injection hr with hr
                    injection hg with hg
                    subst hr hg
                    exact ⟨rfl, rfl, rfl, rfl, World.ownsRow_nil _ _ _ _⟩
                  | succ j => simp at hr
              · have qk : ((kn : Int) == 0) = false := by simp; omega
                have hnn : Hid (keepG ((itsOf l).foldl gsL []) ≠ []) := Lib.hid (fun e => hk0 (by rw [hkn.out, e]; rfl))
                go_wp2
                exact bodyPost_ret (v := .tuple #[.slice ka kn kc, .bool false]) (by simp [results, Try.results11, go_sem]) rfl (.inr ⟨hnn.out, _, rk, rfl, hK.out, hbw.out⟩)
end Go.Proofs.Ytjigljpodkfchad
