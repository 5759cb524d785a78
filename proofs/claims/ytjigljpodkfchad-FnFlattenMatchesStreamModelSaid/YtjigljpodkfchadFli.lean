/- FnFlattenMatchesStreamModel: the readers of compounds (emptiness, ranges, is there a local or global). -/
import Derived.Test.YtjigljpodkfchadFlh
set_option linter.unusedVariables false
set_option linter.unusedSimpArgs false
namespace Go.Proofs.Ytjigljpodkfchad
open Go.RowKit
set_option maxRecDepth 100000
set_option maxHeartbeats 40000000
def PtrIs (tv : Value) (b : Bool) : Prop := (b = true ∧ tv = .pointer none) ∨ (b = false ∧ ∃ B, tv = .pointer (some ⟨B, 0, none⟩))
theorem TyR.ptr {O : Nat → Prop} {w : World} {tv : Value} {ty : Option ByteArray} (h : TyR O w tv ty) : PtrIs tv ty.isNone := by
  cases ty with
  | none => exact .inl ⟨rfl, h⟩
  | some s => obtain ⟨B, e, -⟩ := h; exact .inr ⟨rfl, B, e⟩
theorem inval29_c (tv : Value) (tn : Bool) (htv : PtrIs tv tn) (a na : Option Addr) (n c nn nc : Nat) (cb : Int) (we : Bool) (w : World) : Calls Try.prog 29 #[.agg #[tv, .slice a n c, .slice na nn nc, .int .i32 0, .int .u8 cb, .bool we]] w (RetV (.bool (decide (nn = 0) && tn && decide (n = 0))) w) := by
  by_cases h1 : nn = 0
  · subst h1
    by_cases h2 : n = 0
    · subst h2
      rcases htv with ⟨rfl, rfl⟩ | ⟨rfl, B, rfl⟩
      all_goals
        go_enter Try.func29, Try.ntmps29
        go_wp2
        go_ret
        exact ⟨rfl, ba _ _⟩
    · have q : ((n : Int) == 0) = false := by simp; omega
      have q2 : decide (n = 0) = false := decide_eq_false h2
      rw [q2]
      clear q2 h2
      rcases htv with ⟨rfl, rfl⟩ | ⟨rfl, B, rfl⟩
      all_goals
        go_enter Try.func29, Try.ntmps29
        go_wp2
        go_ret
        exact ⟨by simp, ba _ _⟩
  · have q : ((nn : Int) == 0) = false := by simp; omega
    have q2 : decide (nn = 0) = false := decide_eq_false h1
    rw [q2]
    clear q2 h1 htv
    go_enter Try.func29, Try.ntmps29
    go_wp2
    go_ret
    exact ⟨by simp, ba _ _⟩
theorem rng38_c (s : ByteArray) (w : World) : Calls Try.prog 38 #[.agg #[.pointer none, .string s, .int .i32 0, .int .i32 0, .int .u8 0]] w (RetV (.agg #[.int .i32 0, .int .i32 0]) w) := by
  go_enter Try.func38, Try.ntmps38
  go_wp2
  exact bodyPost_ret (v := .agg #[.int .i32 0, .int .i32 0]) (by simp [results, Try.results38, go_sem]) rfl ⟨rfl, (ba _ _).alloc (by simp) _⟩
theorem end44_c (l : Int) (w : World) : Calls Try.prog 44 #[.agg #[.int .i32 0, .int .i32 l]] w (RetV (.int .i32 (wrap32 l)) w) := by
  go_enter Try.func44, Try.ntmps44
  go_wp2
  go_ret
  exact ⟨by simp, ba _ _⟩
theorem ta124 (p : Value) (W : World) : (Instr.typeAssert (.iface 124 p) 107 124 true).run Try.prog W = .ok (.tuple #[p, .bool true]) W := by kernel_rfl
theorem tb128 (p : Value) (W : World) : (Instr.typeAssert (.iface 128 p) 107 124 true).run Try.prog W = .ok (.tuple #[.pointer none, .bool false]) W := by kernel_rfl
theorem tc128 (p : Value) (W : World) : (Instr.typeAssert (.iface 128 p) 107 128 true).run Try.prog W = .ok (.tuple #[p, .bool true]) W := by kernel_rfl
def isLg (k : SK) : Bool := match k with
  | .inl nm => lgN nm
  | .inr (kd, _) => (kd == 0) || (kd == 3)
/-- what a reader meets in a subclass selector -/
def SeeS (w : World) (t : TypeId) (p : Value) (k : SK) : Prop := match k with
  | .inl nm => t = 124 ∧ ∃ B, p = .pointer (some ⟨B, 0, none⟩) ∧ w.cell? ⟨B, 0, none⟩ = some (.string nm)
  | .inr (kd, l) => t = 128 ∧ ∃ Z, p = .pointer (some ⟨Z, 0, none⟩) ∧ w.cell? ⟨Z, 2 + 1, none⟩ = some (.int .u8 kd)
theorem SeeS.after {w w' : World} {t : TypeId} {p : Value} {k : SK} (h : SeeS w t p k) (hb : Below w.heap.size w w') : SeeS w' t p k := by
  cases k with
  | inl nm => obtain ⟨h1, B, h2, h3⟩ := h; exact ⟨h1, B, h2, ac hb h3⟩
  | inr q => obtain ⟨kd, l⟩ := q; obtain ⟨h1, B, h2, h3⟩ := h; exact ⟨h1, B, h2, ac hb h3⟩
theorem G1.see {O : Nat → Prop} {w : World} {s : SubR SK} (h : G1 O w s) : SeeS w s.t s.p s.k := by
  obtain ⟨t, p, k⟩ := s
  cases k with
  | inl nm => obtain ⟨h1, B, h2, -, h3, -⟩ := h; exact ⟨h1, B, h2, by simpa using h3 0 _ rfl⟩
  | inr q => obtain ⟨kd, l⟩ := q; obtain ⟨h1, Z, Y, c1, g, c, ms, rs, h2, -, -, -, h6, -⟩ := h; exact ⟨h1, Z, h2, by simpa using h6 3 _ rfl⟩
def SeeC (w : World) (r : MR) (k : Ck SK) : Prop := ∃ a m c, r.sv = .slice a m c ∧ k.ks.length = m ∧ ∀ j x, k.ks[j]? = some x → ∃ g t p, a = some ⟨g, 0, none⟩ ∧ Seg w g (j * 3) [.iface t p, .int .i32 0, .int .i32 0] ∧ SeeS w t p x
theorem SeeC.after {w w' : World} {r : MR} {k : Ck SK} (h : SeeC w r k) (hb : Below w.heap.size w w') : SeeC w' r k := by
  obtain ⟨a, m, c, h1, h2, h3⟩ := h
  refine ⟨a, m, c, h1, h2, fun j x hx => ?_⟩
  obtain ⟨g, t, p, e1, e2, e3⟩ := h3 j x hx
  exact ⟨g, t, p, e1, e2.after hb, e3.after hb⟩
theorem RCk1.see {lo hi : Nat} {w : World} {r : MR} {k : Ck SK} (h : RCk1 lo hi w r k) : SeeC w r k := by
  obtain ⟨-, -, -, ls, ms, h4, -, -, -, -, h9, h10, -, -⟩ := h
  obtain ⟨a, c, hsv⟩ := own_head h4
  refine ⟨a, ls.length, c, hsv, by rw [← h10, List.length_map], fun j x hx => ?_⟩
  rw [← h10, List.getElem?_map] at hx
  cases hs : ls[j]? with
  | none => rw [hs] at hx; cases hx
  | some s =>
    rw [hs] at hx
    injection hx with hx
    subst hx
    have hj := (List.getElem?_eq_some_iff.1 hs).1
    rw [hsv] at h4
    obtain ⟨g, c9, e9, -⟩ := own_some h4 (by omega)
    injection e9 with e9 _ _
    subst e9
    exact ⟨g, s.t, s.p, rfl, fun i v hi => own_at SubR.len h4 hs hi, (h9 j s hs).see⟩
theorem has27_c (ls : List (Ck SK)) (n : Nat) (hn : ls.length = n) (hn2 : n ≤ 1048576) (hin : ∀ x ∈ ls, x.ks.length ≤ 1048576) (rs : List MR) (g c : Nat) (w : World) (h : ∀ (i : Nat) x, ls[i]? = some x → ∃ r, Seg w g (i * 6) r.cells ∧ PtrIs r.tv x.ty.isNone ∧ (∃ na nc, r.nv = .slice na x.nn nc) ∧ SeeC w r x) : Calls Try.prog 27 #[.agg #[.slice (some ⟨g, 0, none⟩) n c]] w (RetV (.bool (ls.any (fun x => x.ks.any isLg))) w) := by
  replace h := Lib.hid h
  replace hn := Lib.hid hn
  replace hin := Lib.hid hin
  have hyes : Hid (∀ (i j : Nat) (x : Ck SK) (k : SK), ls[i]? = some x → x.ks[j]? = some k → isLg k = true → ∀ W, Below w.heap.size w W → RetV (.bool (ls.any (fun x => x.ks.any isLg))) w (.returned (.bool true)) W) := Lib.hid (fun i j x k h1 h2 h3 W h4 => ⟨by
    have : ls.any (fun x => x.ks.any isLg) = true := List.any_eq_true.2 ⟨x, List.mem_of_getElem? h1, List.any_eq_true.2 ⟨k, List.mem_of_getElem? h2, h3⟩⟩
    rw [this], h4⟩)
  have hno : Hid ((∀ (i : Nat) (x : Ck SK), i < n → ls[i]? = some x → x.ks.any isLg = false) → ∀ W, Below w.heap.size w W → RetV (.bool (ls.any (fun x => x.ks.any isLg))) w (.returned (.bool false)) W) := Lib.hid (fun h1 W h4 => ⟨by
    have : ls.any (fun x => x.ks.any isLg) = false := List.any_eq_false.2 (fun x hx => by
      obtain ⟨i, hi⟩ := List.getElem?_of_mem hx
      rw [h1 i x (by rw [← hn.out]; exact (List.getElem?_eq_some_iff.1 hi).1) hi]; decide)
    rw [this], h4⟩)
  generalize RetV (.bool (ls.any (fun x => x.ks.any isLg))) w = QQ at *
  go_enter Try.func27, Try.ntmps27
  go_upto_region 1 with fail
  refine wp_gen (fun W hW => ?_)
  have bW : Hid (Below w.heap.size w W) := Lib.hid (by rw [hW]; exact ba _ _)
  have e0 : W.cell? ⟨w.heap.size, 0, none⟩ = some (.slice (some ⟨g, 0, none⟩) n c) := by rw [hW]; simp [go_sem]
  clear hW
  go_wp2
  clear e0
  go_loopw [12] (fun i wr => ∃ k, k ≤ n ∧ i = .int .i64 k ∧ (∀ (i : Nat) (x : Ck SK), i < k → ls[i]? = some x → x.ks.any isLg = false) ∧ Below w.heap.size w wr) (fun i _ => n - (intOf i).toNat)
  case atStart => exact ⟨0, by omega, rfl, fun _ _ q => by omega, bW.out⟩
  case round =>
    obtain ⟨k, hk, rfl, hAll, hB⟩ := hrel
    obtain ⟨Wr, rfl⟩ : ∃ y, y = wr := ⟨_, rfl⟩
    replace hB := Lib.hid hB; replace hAll := Lib.hid hAll
    have hzr := hB.out.size
    by_cases hlt : k < n
    · obtain ⟨x, hx⟩ : ∃ x, ls[k]? = some x := ⟨_, List.getElem?_eq_getElem (by rw [hn.out]; exact hlt)⟩
      obtain ⟨r, hs, hpt, ⟨na, nc, hnv⟩, hsee⟩ := h.out k x hx
      have hxn := hin.out x (List.mem_of_getElem? hx)
      obtain ⟨ra, m, rc, hsv, hm, hel⟩ := hsee.after hB.out
      rw [hm] at hxn
      obtain ⟨tv, sv, nv, cb⟩ := r
      simp only at hsv hnv hpt
      subst hsv hnv
      obtain ⟨d0, d1, d2, d3, d4, d5⟩ := segs6 (show Seg Wr g (k * 6) [tv, .slice ra m rc, .slice na x.nn nc, .int .i32 0, .int .u8 cb, .bool false] from hs.after hB.out)
      replace hx := Lib.hid hx; replace hel := Lib.hid hel; replace hm := Lib.hid hm
      clear hs hsee
      have i0 : (0 : Int) ≤ k := by omega
      have i1 : (k : Int) < n := by omega
      have htv : ∃ o, tv = .pointer o := by rcases hpt with ⟨-, e⟩ | ⟨-, B, e⟩; exact ⟨_, e⟩; exact ⟨_, e⟩
      obtain ⟨po, rfl⟩ := htv
      go_upto_region 4 with fail
      refine wp_gen (fun W1 hW => ?_)
      have b1 : Hid (Below Wr.heap.size Wr W1) := Lib.hid (by rw [hW]; exact ba _ _)
      have e1 : W1.cell? ⟨Wr.heap.size, 1, none⟩ = some (.slice ra m rc) := by rw [hW]; simp [go_sem]
      clear hW d0 d1 d2 d3 d4 d5
      go_wp2
      clear e1
      go_loopw [19] (fun i wr => ∃ j, j ≤ m ∧ i = .int .i64 j ∧ (∀ (i : Nat) (y : SK), i < j → x.ks[i]? = some y → isLg y = false) ∧ Below Wr.heap.size Wr wr) (fun i _ => m - (intOf i).toNat)
      case atStart => exact ⟨0, by omega, rfl, fun _ _ q => by omega, b1.out⟩
      case round =>
        obtain ⟨j, hj, rfl, hAllj, hBj⟩ := hrel
        obtain ⟨W2, rfl⟩ : ∃ y, y = wr := ⟨_, rfl⟩
        replace hBj := Lib.hid hBj; replace hAllj := Lib.hid hAllj
        have hzj := hBj.out.size
        have hB2 : Hid (Below w.heap.size w W2) := Lib.hid (hB.out.trans (hBj.out.mono hzr))
        by_cases hltj : j < m
        · obtain ⟨y, hy⟩ : ∃ y, x.ks[j]? = some y := ⟨_, List.getElem?_eq_getElem (by rw [hm.out]; exact hltj)⟩
          obtain ⟨gy, t, p, rfl, hsg, hsy⟩ := hel.out j y hy
          obtain ⟨f0, f1, f2⟩ := segs3 (hsg.after hBj.out)
          replace hsy := hsy.after hBj.out
          clear hsg
          replace hy := Lib.hid hy
          have j0 : (0 : Int) ≤ j := by omega
          have j1 : (j : Int) < m := by omega
          have hYes : Hid (isLg y = true → ∀ W, Below w.heap.size w W → QQ (.returned (.bool true)) W) := Lib.hid (hyes.out k j x y hx.out hy.out)
          have hNext : Hid (isLg y = false → ∀ (i : Nat) (z : SK), i < j + 1 → x.ks[i]? = some z → isLg z = false) := Lib.hid (fun h1 i z hi hz => by
            by_cases e : i = j
            · subst e; rw [hy.out] at hz; cases hz; exact h1
            · exact hAllj.out i z (by omega) hz)
          cases y with
          | inl nm =>
            obtain ⟨rfl, B, rfl, hc⟩ := hsy
            have hc' := fun o => al hc o
            have tq := fun W' => ta124 (.pointer (some ⟨B, 0, none⟩)) W'
            have hbb : Hid (Below w.heap.size w (W2.alloc (.cells #[.iface 124 (.pointer (some ⟨B, 0, none⟩)), .int .i32 0, .int .i32 0] 111))) := Lib.hid (hB2.out.trans ((ba _ _).mono hB2.out.size))
            have hbj : Hid (Below Wr.heap.size Wr (W2.alloc (.cells #[.iface 124 (.pointer (some ⟨B, 0, none⟩)), .int .i32 0, .int .i32 0] 111))) := Lib.hid (hBj.out.trans ((ba _ _).mono hzj))
            by_cases g1 : nm.toList = [103, 108, 111, 98, 97, 108]
            · have q1 : (nm.toList == [103, 108, 111, 98, 97, 108]) = true := by rw [g1]; rfl
              have hF := Lib.hid (hYes.out (by show lgN nm = true; unfold lgN; rw [q1]; rfl) _ hbb.out)
              go_wp2
              exact hF.out
            · have q1 : (nm.toList == [103, 108, 111, 98, 97, 108]) = false := by simp [g1]
              by_cases g2 : nm.toList = [108, 111, 99, 97, 108]
              · have q2 : (nm.toList == [108, 111, 99, 97, 108]) = true := by rw [g2]; rfl
                have hF := Lib.hid (hYes.out (by show lgN nm = true; unfold lgN; rw [q2]; simp) _ hbb.out)
                go_wp2
                exact hF.out
              · have q2 : (nm.toList == [108, 111, 99, 97, 108]) = false := by simp [g2]
                have hF := Lib.hid (hNext.out (by show lgN nm = false; unfold lgN; rw [q1, q2]; rfl))
                go_wp2
                exact ⟨⟨j + 1, by omega, by go_num, hF.out, hbj.out⟩, by simp [intOf] <;> omega⟩
          | inr q =>
            obtain ⟨kd, l⟩ := q
            obtain ⟨rfl, B, rfl, hc⟩ := hsy
            have hc' := fun o => al hc o
            have tq := fun W' => tb128 (.pointer (some ⟨B, 0, none⟩)) W'
            have tr := fun W' => tc128 (.pointer (some ⟨B, 0, none⟩)) W'
            have hbb : Hid (Below w.heap.size w (W2.alloc (.cells #[.iface 128 (.pointer (some ⟨B, 0, none⟩)), .int .i32 0, .int .i32 0] 111))) := Lib.hid (hB2.out.trans ((ba _ _).mono hB2.out.size))
            have hbj : Hid (Below Wr.heap.size Wr (W2.alloc (.cells #[.iface 128 (.pointer (some ⟨B, 0, none⟩)), .int .i32 0, .int .i32 0] 111))) := Lib.hid (hBj.out.trans ((ba _ _).mono hzj))
            by_cases g1 : kd = 0
            · have q1 : (kd == 0) = true := by simp [g1]
              have hF := Lib.hid (hYes.out (by show ((kd == 0) || (kd == 3)) = true; rw [q1]; rfl) _ hbb.out)
              clear g1
              go_wp2
              exact hF.out
            · have q1 : (kd == 0) = false := by simp [g1]
              by_cases g2 : kd = 3
              · have q2 : (kd == 3) = true := by simp [g2]
                have hF := Lib.hid (hYes.out (by show ((kd == 0) || (kd == 3)) = true; rw [q2]; simp) _ hbb.out)
                clear g1 g2
                go_wp2
                exact hF.out
              · have q2 : (kd == 3) = false := by simp [g2]
                have hF := Lib.hid (hNext.out (by show ((kd == 0) || (kd == 3)) = false; rw [q1, q2]; rfl))
                go_wp2
                exact ⟨⟨j + 1, by omega, by go_num, hF.out, hbj.out⟩, by simp [intOf] <;> omega⟩
        · obtain rfl : j = m := by omega
          have hF := Lib.hid (show x.ks.any isLg = false from List.any_eq_false.2 (fun y hy => by
            obtain ⟨i, hi⟩ := List.getElem?_of_mem hy
            rw [hAllj.out i y (by rw [← hm.out]; exact (List.getElem?_eq_some_iff.1 hi).1) hi]; decide))
          go_wp2
          exact ⟨⟨k + 1, by omega, by go_num, fun i y hi hy => by
            by_cases e : i = k
            · subst e; rw [hx.out] at hy; cases hy; exact hF.out
            · exact hAll.out i y (by omega) hy, hB2.out⟩, by simp [intOf] <;> omega⟩
    · obtain rfl : k = n := by omega
      have hF := Lib.hid (hno.out hAll.out Wr hB.out)
      go_wp2
      exact hF.out
end Go.Proofs.Ytjigljpodkfchad
