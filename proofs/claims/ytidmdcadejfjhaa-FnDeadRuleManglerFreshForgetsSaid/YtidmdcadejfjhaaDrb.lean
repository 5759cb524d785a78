/- FnDeadRuleManglerFreshForgets: zzBuildCompound. -/
import Derived.Test.YtidmdcadejfjhaaDra
set_option linter.unusedVariables false
set_option linter.unusedSimpArgs false
namespace Go.Proofs.Ytidmdcadejfjhaa
open Go.RowKit
set_option maxRecDepth 100000
set_option maxHeartbeats 4000000
/-- a list of ints of the call's own -/
def Key (w0 w : World) (v : Value) (m : Nat) : Prop := ∃ n xs, n ≤ m ∧ w.ownsRow w0.heap.size 3 1 v n xs
theorem Key.kp {S : Nat → Prop} {w0 w w' : World} {v : Value} {m : Nat} (h : Key w0 w v m) (hk : Kp S w w') (he : ∀ b, Ob v b → ¬ S b) : Key w0 w' v m := by
  obtain ⟨n, xs, h1, h2⟩ := h
  exact ⟨n, xs, h1, hk.own h2 he⟩
theorem Key.below {w0 w w' : World} {v : Value} {m : Nat} (h : Key w0 w v m) (hb : Below w.heap.size w w') : Key w0 w' v m := h.kp (S := fun _ => False) (Kp.of hb) (fun _ _ q => q)
theorem Key.mono {w0 w : World} {v : Value} {m m' : Nat} (h : Key w0 w v m) (hm : m ≤ m') : Key w0 w v m' := by
  obtain ⟨n, xs, h1, h2⟩ := h
  exact ⟨n, xs, by omega, h2⟩
theorem own_ty {w : World} {B z n : Nat} {e : TypeId} {v : Value} {xs : List Value} (h : w.ownsRow B e z v n xs) {b : Nat} (hb : Ob v b) : B ≤ b ∧ b < w.heap.size ∧ ∃ cur fr, w.heap[b]? = some (.cells cur e fr) := by
  refine ⟨(h.lt b hb).1, (h.lt b hb).2, ?_⟩
  rcases h.2 with ⟨rfl, _⟩ | ⟨g, cap, cur, rfl, _, hg, _⟩
  · simp [Ob, Value.ownBlock] at hb
  · simp [Ob, Value.ownBlock] at hb
    subst hb
    exact ⟨cur, _, hg⟩
/-- rows of different types lie in different blocks -/
theorem own_ne {w : World} {B z n B' z' n' : Nat} {e e' : TypeId} {v v' : Value} {xs xs' : List Value} (h : w.ownsRow B e z v n xs) (h' : w.ownsRow B' e' z' v' n' xs') (he : e ≠ e') : ∀ b, Ob v b → ¬ Ob v' b := fun b hb hb' => by
  obtain ⟨-, -, cur, fr, q⟩ := own_ty h hb
  obtain ⟨-, -, cur', fr', q'⟩ := own_ty h' hb'
  rw [q] at q'
  injection q' with q'
  injection q' with _ q'
  exact he q'
theorem step_k {T : Type} {G : (Nat → Prop) → World → T → Prop} (keep : KeepG G) {w5 w7 w8 : World} {Oth Oth' O' : Nat → Prop} {v v' : Value} {ls : List T} {s' : T}
    (hG : ∀ s ∈ ls, G (fun b => Ob v b ∨ Oth b) w5 s) (k57 : Kc (fun b => Ob v b ∨ Oth b) w5 w7) (ho : ∀ b, b < w5.heap.size → Oth' b → Oth b) (hs : G O' w7 s') (ho' : ∀ b, b < w7.heap.size → Ob v b ∨ Oth' b → O' b) (hsz : w5.heap.size ≤ w7.heap.size) (hkp : Kp (Ob v) w7 w8) (hnew : ∀ b, Ob v' b → Ob v b ∨ w7.heap.size ≤ b) : ∀ s ∈ ls ++ [s'], G (fun b => Ob v' b ∨ Oth' b) w8 s := fun s hm => by
  rcases List.mem_append.1 hm with hm | hm
  · refine keep (fun b => Ob v b ∨ Oth' b) _ _ _ _ (keep _ _ _ _ _ (hG s hm) k57 (fun b hb q => q.imp id (ho b hb))) (Kc.of_kp hkp (fun b _ q => .inl q)) (fun b hb q => ?_)
    rcases q with q | q
    · rcases hnew b q with q | q
      · exact .inl q
      · omega
    · exact .inr q
  · rw [List.mem_singleton] at hm
    subst hm
    refine keep _ _ _ _ _ hs (Kc.of_kp hkp (fun b hb q => ho' b hb (.inl q))) (fun b hb q => ?_)
    rcases q with q | q
    · rcases hnew b q with q | q
      · exact ho' b hb (.inl q)
      · omega
    · exact ho' b hb (.inr q)
theorem rsub_of_own {K : Type} {G : (Nat → Prop) → World → SubR K → Prop} (keep : KeepG G) {O O' : Nat → Prop} {w : World} {B n c : Nat} {a : Option Addr} {ls : List (SubR K)} (hl : ls.length = n) (hO : w.ownsRow B 95 3 (.slice a n c) n (flat SubR.cells ls)) (hG : ∀ s ∈ ls, G O w s) (ho : ∀ b, b < w.heap.size → O' b → O b) (hB : ∀ b, Ob (.slice a n c) b → ¬ O' b) : RSub G O' w a ls := fun i s hi => by
  have hil : i < n := by rw [← hl]; exact (List.getElem?_eq_some_iff.1 hi).1
  obtain ⟨g, c9, e9, hg1, hg2, -, -⟩ := own_some hO (by omega)
  injection e9 with e9 _ _
  subst e9
  exact ⟨g, rfl, hB g rfl, fun j v hj => own_at SubR.len hO hi hj, keep _ _ _ _ _ (hG s (List.mem_of_getElem? hi)) (fun _ _ q _ => q) ho⟩
theorem rcp_of_own {K : Type} {G : (Nat → Prop) → World → SubR K → Prop} (keep : KeepG G) {O O' : Nat → Prop} {w : World} {B n c : Nat} {a : Option Addr} {ls : List (CpR K)} (hl : ls.length = n) (hO : w.ownsRow B 84 6 (.slice a n c) n (flat CpR.cells ls)) (hG : ∀ s ∈ ls, GCp G O w s) (ho : ∀ b, b < w.heap.size → O' b → O b) (hB : ∀ b, Ob (.slice a n c) b → ¬ O' b) : RCp G O' w a ls := fun i s hi => by
  have hil : i < n := by rw [← hl]; exact (List.getElem?_eq_some_iff.1 hi).1
  obtain ⟨g, c9, e9, hg1, hg2, -, -⟩ := own_some hO (by omega)
  injection e9 with e9 _ _
  subst e9
  exact ⟨g, rfl, hB g rfl, fun j v hj => own_at CpR.len hO hi hj, GCp.keep keep _ _ _ _ _ (hG s (List.mem_of_getElem? hi)) (fun _ _ q _ => q) ho⟩
theorem rcx_of_own {K : Type} {G : (Nat → Prop) → World → SubR K → Prop} (keep : KeepG G) {O O' : Nat → Prop} {w : World} {B n c : Nat} {a : Option Addr} {ls : List (CxR K)} (hl : ls.length = n) (hO : w.ownsRow B 50 1 (.slice a n c) n (flat CxR.cells ls)) (hG : ∀ s ∈ ls, GCx G O w s) (ho : ∀ b, b < w.heap.size → O' b → O b) (hB : ∀ b, Ob (.slice a n c) b → ¬ O' b) : RCx G O' w a ls := fun i s hi => by
  have hil : i < n := by rw [← hl]; exact (List.getElem?_eq_some_iff.1 hi).1
  obtain ⟨g, c9, e9, hg1, hg2, -, -⟩ := own_some hO (by omega)
  injection e9 with e9 _ _
  subst e9
  refine ⟨g, rfl, hB g rfl, ?_, GCx.keep keep _ _ _ _ _ (hG s (List.mem_of_getElem? hi)) (fun _ _ q _ => q) ho⟩
  have := own_at CxR.len hO hi (j := 0) (u := .slice s.a s.ls.length s.c) rfl
  simpa using this
/-- what zzBuildCompound makes -/
def compK (S T Q : Nat → Nat) (p j : Nat) : List K1 := (List.range (S p % 4)).map (fun q => subK T Q (j + q))
def CompP (S T Q : Nat → Nat) (p j : Nat) (key0 : Value) (w0 w : World) (m : Nat) (e : Ending) (w' : World) : Prop := ∃ (r : CpR K1) (d : Bool) (key : Value) (jn : Nat), e = .returned (.tuple #[.agg r.arr, .int .i64 jn, .bool d, key]) ∧ jn = j + S p % 4 ∧ GCp G1 (fun b => Ob key b ∨ b ≤ w.heap.size) w' r ∧ r.key = compK S T Q p j ∧ Key w0 w' key (m + 4) ∧ (∀ b, Ob key b → Ob key0 b ∨ w.heap.size ≤ b) ∧ Kp (Ob key0) w w' ∧ Below w0.heap.size w0 w'
def LC (T Q : Nat → Nat) (j0 : Nat) (key0 : Value) (w0 w : World) (m : Nat) (N : Nat) (j key subs dead q : Value) (wr : World) : Prop := ∃ (k : Nat) (d : Bool) (ls : List (SubR K1)), k ≤ N ∧ q = .int .i64 k ∧ j = .int .i64 (j0 + k : Nat) ∧ dead = .bool d ∧ Key w0 wr key (m + 1 + k) ∧ (∀ b, Ob key b → Ob key0 b ∨ w.heap.size ≤ b) ∧ wr.ownsRow w.heap.size 95 3 subs k (flat SubR.cells ls) ∧ ls.length = k ∧ (∀ s ∈ ls, G1 (fun b => Ob subs b ∨ (Ob key b ∨ b ≤ w.heap.size)) wr s) ∧ ls.map SubR.k = (List.range k).map (fun q => subK T Q (j0 + q)) ∧ Kp (Ob key0) w wr ∧ Below w0.heap.size w0 wr ∧ (∃ xs, wr.ownsRow w.heap.size 84 6 (.slice (some ⟨w.heap.size, 0, none⟩) 1 1) 1 xs)
theorem storeCp {K : Type} {w : World} {P B : Nat} {xs : List Value} (h : w.ownsRow B 84 6 (.slice (some ⟨P, 0, none⟩) 1 1) 1 xs) (s : CpR K) (n : Nat) (hn : s.ls.length = n) :
    ((((((w.setCell ⟨P, 0, none⟩ (.pointer none)).setCell ⟨P, 1, none⟩ (.slice s.a n s.c)).setCell ⟨P, 2, none⟩ (.slice none 0 0)).setCell ⟨P, 3, none⟩ (.int .i32 0)).setCell ⟨P, 4, none⟩ (.int .u8 0)).setCell ⟨P, 5, none⟩ (.bool false)).ownsRow B 84 6 (.slice (some ⟨P, 0, none⟩) 1 1) 1 s.cells ∧ Kp (fun b => b = P) w ((((((w.setCell ⟨P, 0, none⟩ (.pointer none)).setCell ⟨P, 1, none⟩ (.slice s.a n s.c)).setCell ⟨P, 2, none⟩ (.slice none 0 0)).setCell ⟨P, 3, none⟩ (.int .i32 0)).setCell ⟨P, 4, none⟩ (.int .u8 0)).setCell ⟨P, 5, none⟩ (.bool false)) := by
  subst hn
  have h0 := h.stored 0 (.pointer none)
  have h1 := h0.1.stored 1 (.slice s.a s.ls.length s.c)
  have h2 := h1.1.stored 2 (.slice none 0 0)
  have h3 := h2.1.stored 3 (.int .i32 0)
  have h4 := h3.1.stored 4 (.int .u8 0)
  have h5 := h4.1.stored 5 (.bool false)
  have Z : ∀ (w1 : World) (j : Nat) (v : Value), Kp (fun b => b = P) w w1 → Kp (fun b => b = P) w (w1.setCell ⟨P, j, none⟩ v) := fun w1 j v h => h.set _ _ (.inl rfl)
  refine ⟨?_, Z _ _ _ (Z _ _ _ (Z _ _ _ (Z _ _ _ (Z _ _ _ (Z _ _ _ (Kp.refl w))))))⟩
  have hl := h.1
  match xs, hl with
  | [x0, x1, x2, x3, x4, x5], _ => exact h5.1
theorem ownCp {w : World} {P B : Nat} {xs : List Value} (h : w.ownsRow B 84 6 (.slice (some ⟨P, 0, none⟩) 1 1) 1 xs) : ∀ j, j < 6 → ∃ v, w.cell? ⟨P, j, none⟩ = some v ∧ w.frozen? ⟨P, j, none⟩ = false := fun j hj => ⟨_, by rw [h.cellAt j (by omega)]; exact List.getElem?_eq_getElem (by rw [h.1]; omega), h.frozenAt j⟩
theorem comp18_c (A1 A2 A3 : Option Addr) (n1 n2 n3 c1 c2 c3 : Nat) (S T Q : Nat → Nat) (p j : Nat) (key : Value) (m : Nat) (w0 w : World) (h1 : Byt w0 A1 n1 S) (h2 : Byt w0 A2 n2 T) (h3 : Byt w0 A3 n3 Q) (hb : Below w0.heap.size w0 w) (hk : Key w0 w key m) (hm : m ≤ 100000) (hj : j ≤ 1000000) :
    Calls Try.prog 18 #[.slice A1 n1 c1, .slice A2 n2 c2, .slice A3 n3 c3, .int .i64 p, .int .i64 j, key] w (CompP S T Q p j key w0 w m) := by
  have C17 := Lib.hid (fun w' (hb : Below w0.heap.size w0 w') => at17_c A1 n1 c1 S p w' (h1.after hb))
  have C20 := Lib.hid (fun j w' (hb : Below w0.heap.size w0 w') => dead20_c A2 A3 n2 c2 n3 c3 T Q j w' (h2.after hb) (h3.after hb))
  have C21 := Lib.hid (fun j w' (hb : Below w0.heap.size w0 w') => key21_c A2 A3 n2 c2 n3 c3 T Q j w' (h2.after hb) (h3.after hb))
  have C22 := Lib.hid (fun j w' (hb : Below w0.heap.size w0 w') => sub22_c A2 A3 n2 c2 n3 c3 T Q j w' (h2.after hb) (h3.after hb))
  clear h1 h2 h3
  obtain ⟨nk, xk, hnk, hk⟩ := hk
  replace hk := Lib.hid hk
  replace hb := Lib.hid hb
  obtain ⟨N, hN, hx4⟩ : ∃ N : Nat, N < 4 ∧ S p % 4 = N := ⟨S p % 4, Nat.mod_lt _ (by omega), rfl⟩
  have hCP : Hid (∀ (r : CpR K1) (d : Bool) (key' : Value) (jn : Nat) (w' : World), jn = j + N → GCp G1 (fun b => Ob key' b ∨ b ≤ w.heap.size) w' r → r.ls.map SubR.k = (List.range N).map (fun q => subK T Q (j + q)) → Key w0 w' key' (m + 4) → (∀ b, Ob key' b → Ob key b ∨ w.heap.size ≤ b) → Kp (Ob key) w w' → Below w0.heap.size w0 w' → CompP S T Q p j key w0 w m (.returned (.tuple #[.agg r.arr, .int .i64 jn, .bool d, key'])) w') := Lib.hid (fun r d key' jn w' a0 a1 a2 a3 a4 a5 a6 => by
    subst hx4
    exact ⟨r, d, key', jn, rfl, a0, a1, a2, a3, a4, a5, a6⟩)
  have hx4' : ((S p : Nat) : Int) % 4 = N := by omega
  generalize S p = x at *
  clear hx4
  generalize hQ : CompP S T Q p j key w0 w m = QQ at *
  clear hQ
  go_enter Try.func18, Try.ntmps18
  go_upto_region 1 with fail
  refine wp_gen (fun W hW => ?_)
  have hbW : Below w.heap.size w W := by rw [hW]; exact ba _ _
  have hP : Hid (W.ownsRow w.heap.size 84 6 (.slice (some ⟨w.heap.size, 0, none⟩) 1 1) 1 (CpR.cells (⟨none, 0, []⟩ : CpR K1))) := Lib.hid (by rw [hW]; exact World.ownsRow_lit _ (CpR.arr (⟨none, 0, []⟩ : CpR K1)) 1 (Nat.le_refl _) (by decide) rfl)
  clear hW
  have hkl := Lib.hid (fun b (q : Ob key b) => (hk.out.lt b q).2)
  replace hk := Lib.hid (own_below hk.out hbW)
  have hB := Lib.hid (hb.out.trans (hbW.mono hb.out.size))
  have hKP : Hid (Kp (Ob key) w W) := Lib.hid (Kp.of hbW)
  have hwW := hbW.size
  have hw0 := hb.out.size
  clear hbW hb
  go_upto_region 2 with (go_at_call 17; (with_reducible refine (C17.out _ hB.out).mono ?_); rintro e w' ⟨rfl, rfl⟩)
  rw [hx4']
  clear C17 hx4'
  go_upto_region 3 with (at_builtin; go_loud (refine app1n (w := W) (.tmp 24) (.tmp 26) 51 3 w0.heap.size 1 8 #[.int .i64 0] #[.int .i64 N] _ nk _ rfl rfl rfl rfl rfl Try.underlying51 info3 rfl (by omega) hk.out rfl (int1 _) (by omega) (by omega) hB.out.size ?_); intro key1 W1 hk1 hkp hnew; replace hkp := Lib.hid hkp; replace hk1 := Lib.hid hk1; replace hnew := Lib.hid hnew)
  have hK1 : Hid (Key w0 W1 key1 (m + 1)) := Lib.hid ⟨nk + 1, _, by omega, hk1.out⟩
  have hnk1 : Hid (∀ b, Ob key1 b → Ob key b ∨ w.heap.size ≤ b) := Lib.hid (fun b q => (hnew.out b q).imp id (fun q => by omega))
  have hBW : Below w0.heap.size W W1 := hkp.out.below hB.out.size (fun b e => (hk.out.lt b e).1)
  have hKP1 : Hid (Kp (Ob key) w W1) := Lib.hid (hKP.out.trans hkp.out)
  replace hP := Lib.hid (hkp.out.own hP.out (own_ne hP.out hk.out (by decide)))
  replace hB := Lib.hid (hB.out.trans hBW)
  have hw1 := hkp.out.size
  clear hBW hkp hk1 hk hKP hnew
  have mk := make0_z (P := Try.prog) #[.nilIface, .int .i32 0, .int .i32 0] Try.underlying79 info95 N (by omega) (by omega)
  go_upto_region 4 with fail
  clear mk
  refine wp_gen (fun W2 hW => ?_)
  have hO : Hid (W2.ownsRow w.heap.size 95 3 (.slice (some ⟨W1.heap.size, 0, none⟩) 0 N) 0 (flat SubR.cells ([] : List (SubR K1)))) := Lib.hid (by rw [hW]; exact World.ownsRow_made _ _ _ (by omega) (by unfold maxLen; omega) (by rw [size_madeCells]))
  have hbW : Below W1.heap.size W1 W2 := by rw [hW]; exact ba _ _
  clear hW
  replace hP := Lib.hid (own_below hP.out hbW); replace hK1 := Lib.hid (hK1.out.below hbW); replace hB := Lib.hid (hB.out.trans (hbW.mono hB.out.size)); replace hKP1 := Lib.hid (hKP1.out.trans (Kp.of hbW))
  clear hbW
  have hR : Hid (LC T Q j key w0 w m N (.int .i64 j) key1 (.slice (some ⟨W1.heap.size, 0, none⟩) 0 N) (.bool false) (.int .i64 0) W2) := Lib.hid ⟨0, false, [], by omega, rfl, rfl, rfl, hK1.out, hnk1.out, hO.out, rfl, (fun s h => by simp at h), rfl, hKP1.out, hB.out, _, hP.out⟩
  go_wp2_with fail
  go_loopw [4, 5, 17, 18, 19] (fun j1 key1 subs dead q wr => LC T Q j key w0 w m N j1 key1 subs dead q wr) (fun _ _ _ _ q _ => N - (intOf q).toNat)
  case atStart => exact hR.out
  case round =>
    clear hR hK1 hO hKP1 hB hP hnk1
    obtain ⟨k, d, ls, hkN, rfl, rfl, rfl, hK, hnk, hO, hll, hG, hmap, hKP, hB, xp, hPr⟩ := hrel
    replace hPr := Lib.hid hPr; replace hnk := Lib.hid hnk; replace hmap := Lib.hid hmap; replace hll := Lib.hid hll
    replace hK := Lib.hid hK; replace hO := Lib.hid hO; replace hG := Lib.hid hG; replace hKP := Lib.hid hKP; replace hB := Lib.hid hB
    obtain ⟨J, hJ⟩ : ∃ J : Nat, j + k = J := ⟨_, rfl⟩
    rw [hJ]
    have hJl : J ≤ 1000010 := by omega
    replace hJ := Lib.hid hJ
    by_cases hlt : k < N
    · obtain ⟨nk', xk', hnk', hk⟩ := hK.out
      replace hk := Lib.hid hk
      clear hK
      have hj1 : Hid ((J : Int) + 1 = ((j + (k + 1) : Nat) : Int)) := Lib.hid (by have := hJ.out; omega)
      go_upto_region 10 with (go_at_call 20; (with_reducible refine (C20.out J _ hB.out).mono ?_); rintro e w' ⟨b, rfl, rfl⟩; cases b)
      all_goals
        go_upto_region 11 with (first | (go_at_call 21; (with_reducible refine (C21.out J _ hB.out).mono ?_); rintro e w' ⟨y, rfl, rfl⟩) | (at_builtin; refine app1n (w := wr) (.tmp 39) (.tmp 44) 51 3 w0.heap.size 1 8 #[.int .i64 0] #[.int .i64 y] _ nk' _ rfl rfl rfl rfl rfl Try.underlying51 info3 rfl (by omega) hk.out rfl (int1 _) (by omega) (by omega) hB.out.size ?_; intro key2 W3 hk3 hkp hnew; replace hkp := Lib.hid hkp; replace hk3 := Lib.hid hk3; replace hnew := Lib.hid hnew))
        have hK3 : Hid (Key w0 W3 key2 (m + 1 + (k + 1))) := Lib.hid ⟨nk' + 1, _, by omega, hk3.out⟩
        have hwr := hKP.out.size
        have hnk3 : Hid (∀ b, Ob key2 b → Ob key b ∨ w.heap.size ≤ b) := Lib.hid (fun b q => by
          rcases hnew.out b q with q | q
          · exact hnk.out b q
          · exact .inr (by omega))
        have hBW : Below w0.heap.size wr W3 := hkp.out.below hB.out.size (fun b e => (hk.out.lt b e).1)
        have hO3 := Lib.hid (hkp.out.own hO.out (own_ne hO.out hk.out (by decide))); have hP3 := Lib.hid (hkp.out.own hPr.out (own_ne hPr.out hk.out (by decide)))
        have hG3 : Hid (∀ s ∈ ls, G1 (fun b => Ob u17 b ∨ (Ob key2 b ∨ b ≤ w.heap.size)) W3 s) := Lib.hid (fun s hs => G1.keep _ _ _ _ _ (hG.out s hs) (Kc.of_kp hkp.out (fun b _ q => .inr (.inl q))) (fun b hb q => by
          rcases q with q | q | q
          · exact .inl q
          · rcases hnew.out b q with q | q
            · exact .inr (.inl q)
            · omega
          · exact .inr (.inr q)))
        have hKP3 : Hid (Kp (Ob key) w W3) := Lib.hid (hKP.out.trans' hkp.out (fun b q hl => by
          rcases hnk.out b q with q | q
          · exact q
          · omega))
        have hB3 := Lib.hid (hB.out.trans hBW)
        have hw3 := hKP3.out.size
        clear hBW hkp hk3 hk hnew
        go_wp2_with (first | (go_at_call 22; (with_reducible refine (C22.out J _ hB3.out).mono ?_); rintro e w4 ⟨s, rfl, hsk, hs, hb⟩; replace hs := Lib.hid hs; replace hsk := Lib.hid hsk; replace hb := Lib.hid hb; have hO4 := Lib.hid (own_below hO3.out hb.out); have hw4 := hb.out.size) | (at_builtin; refine app1n (w := w4) (.tmp 46) (.tmp 51) 79 95 w.heap.size 3 24 #[.nilIface, .int .i32 0, .int .i32 0] s.arr _ k _ rfl rfl rfl rfl rfl Try.underlying79 info95 rfl (by omega) hO4.out rfl (SubR.one s) (by omega) (by omega) (by omega) ?_; intro subs2 W5 hO5 hkp hnew; replace hkp := Lib.hid hkp; replace hO5 := Lib.hid hO5; replace hnew := Lib.hid hnew))
        have hK4 := hK3.out.below hb.out
        have hd1 : ∀ b, Ob key2 b → ¬ Ob u17 b := by
          obtain ⟨_, _, _, q⟩ := hK4
          exact own_ne q hO4.out (by decide)
        have hGn := step_k G1.keep (Oth' := fun b => Ob key2 b ∨ b ≤ w.heap.size) hG3.out (Kc.of_below hb.out) (fun b _ q => q) hs.out (fun b hb2 q => by
          rcases q with q | q | q
          · exact (hO3.out.lt b q).2
          · obtain ⟨_, _, _, q'⟩ := hK3.out
            exact (q'.lt b q).2
          · show b < W3.heap.size
            have := (hP3.out.lt w.heap.size rfl).2
            omega) hw4 hkp.out hnew.out
        have RR : ∀ d', LC T Q j key w0 w m N (.int .i64 ((J : Int) + 1)) key2 subs2 (.bool d') (.int .i64 ((k : Int) + 1)) W5 := fun d' => ⟨k + 1, d', ls ++ [s], by omega, by go_num, by rw [hj1.out], rfl, hK4.kp hkp.out hd1, hnk3.out, by rw [← flat_add]; exact hO5.out, by simp [hll.out], hGn, by rw [List.map_append, hmap.out, List.range_succ, List.map_append]; simp [hsk.out, hJ.out], (hKP3.out.trans (Kp.of hb.out)).trans' hkp.out (fun b q hl => by have := (hO4.out.lt b q).1; omega), (hB3.out.trans (hb.out.mono hB3.out.size)).trans (hkp.out.below (Nat.le_trans hB3.out.size hw4) (fun b e => by have := (hO4.out.lt b e).1; omega)), _, hkp.out.own (own_below hP3.out hb.out) (own_ne (own_below hP3.out hb.out) hO4.out (by decide))⟩
        exact ⟨RR _, by simp [intOf]; omega⟩
    · obtain rfl : k = N := by omega
      obtain ⟨a, c, hu, -, -⟩ := own_shape hO.out
      subst hu
      have hst := Lib.hid (storeCp hPr.out ⟨a, c, ls⟩ k hll.out)
      obtain ⟨v0, c0, g0⟩ := ownCp hPr.out 0 (by omega); obtain ⟨v1, c1, g1⟩ := ownCp hPr.out 1 (by omega); obtain ⟨v2, c2, g2⟩ := ownCp hPr.out 2 (by omega); obtain ⟨v3, c3, g3⟩ := ownCp hPr.out 3 (by omega); obtain ⟨v4, c4, g4⟩ := ownCp hPr.out 4 (by omega); obtain ⟨v5, c5, g5⟩ := ownCp hPr.out 5 (by omega)
      go_wp2_with fail
      have hkP : ∀ b, Ob u5 b → b ≠ w.heap.size := fun b q e => by
        obtain ⟨_, _, _, q'⟩ := hK.out
        exact own_ne q' hPr.out (by decide) b q (by rw [e]; rfl)
      have hsP : ∀ b, Ob (.slice a k c) b → b ≠ w.heap.size := fun b q e => own_ne hO.out hPr.out (by decide) b q (by rw [e]; rfl)
      have hsk : ∀ b, Ob (.slice a k c) b → ¬ Ob u5 b := by
        obtain ⟨_, _, _, q'⟩ := hK.out
        exact own_ne hO.out q' (by decide)
      have hG' := hCP.out ⟨a, c, ls⟩ d u5 J ((((((wr.setCell ⟨w.heap.size, 0, none⟩ (.pointer none)).setCell ⟨w.heap.size, 1, none⟩ (.slice a k c)).setCell ⟨w.heap.size, 2, none⟩ (.slice none 0 0)).setCell ⟨w.heap.size, 3, none⟩ (.int .i32 0)).setCell ⟨w.heap.size, 4, none⟩ (.int .u8 0)).setCell ⟨w.heap.size, 5, none⟩ (.bool false)) hJ.out.symm ⟨RSub.keep G1.keep (rsub_of_own (O' := fun b => Ob u5 b ∨ b ≤ w.heap.size) G1.keep hll.out hO.out hG.out (fun b _ q => .inr q) (fun b q q' => by
          have h1 := hsP b q
          have h2 := (hO.out.lt b q).1
          rcases q' with q' | q'
          · exact hsk b q q'
          · omega)) (Kc.of_kp hst.out.2 (fun b _ q => .inr (by omega))) (fun _ _ q => q), by show ls.length ≤ maxLen; rw [hll.out]; unfold maxLen; omega⟩ hmap.out ((hK.out.kp hst.out.2 (fun b q => by exact hkP b q)).mono (by omega)) hnk.out (hKP.out.trans' hst.out.2 (fun b q hl => by omega)) (hB.out.trans (hst.out.2.below hB.out.size (fun b e => by omega)))
      have harr : (CpR.arr (⟨a, c, ls⟩ : CpR K1)) = #[.pointer none, .slice a k c, .slice none 0 0, .int .i32 0, .int .u8 0, .bool false] := by show #[_, Value.slice a ls.length c, _, _, _, _] = _; rw [hll.out]
      rw [harr] at hG'
      exact bodyPost_ret (v := .tuple #[.agg #[.pointer none, .slice a k c, .slice none 0 0, .int .i32 0, .int .u8 0, .bool false], .int .i64 J, .bool d, u5]) (by simp [results, Try.results18, go_sem, c0, c1, c2, c3, c4, c5]) rfl hG'
end Go.Proofs.Ytidmdcadejfjhaa
