/- FnSubstituteAmpersandsClosedForm: buildCmp. -/
import Derived.Test.YtjigljpodkfchaaFmtSua
set_option linter.unusedVariables false
set_option linter.unusedSimpArgs false
namespace Go.Proofs.YtjigljpodkfchaaFmt
open Go.RowKit
set_option maxRecDepth 100000
set_option maxHeartbeats 4000000
theorem own_ty {w : World} {B z n : Nat} {e : TypeId} {v : Value} {xs : List Value} (h : w.ownsRow B e z v n xs) {b : Nat} (hb : Ob v b) : B ≤ b ∧ b < w.heap.size ∧ ∃ cur fr, w.heap[b]? = some (.cells cur e fr) := by
  refine ⟨(h.lt b hb).1, (h.lt b hb).2, ?_⟩
  rcases h.2 with ⟨rfl, _⟩ | ⟨g, cap, cur, rfl, _, hg, _⟩
  · simp [Ob, Value.ownBlock] at hb
  · simp [Ob, Value.ownBlock] at hb
    subst hb
    exact ⟨cur, _, hg⟩
/-- rows of different types lie in different blocks -/
theorem own_ne {w : World} {B z n B' z' n' : Nat} {e e' : TypeId} {v v' : Value} {xs xs' : List Value} (h : w.ownsRow B e z v n xs) (h' : w.ownsRow B' e' z' v' n' xs') (he : e ≠ e') : ∀ b, Ob v b → ¬ Ob v' b := fun b hb hb' => by
  obtain ⟨-, -, cur, fr, q⟩ := own_ty h hb
  obtain ⟨-, -, cur', fr', q'⟩ := own_ty h' hb'
  rw [q] at q'
  injection q' with q'
  injection q' with _ q'
  exact he q'
theorem own_head {w : World} {B z n : Nat} {e : TypeId} {v : Value} {xs : List Value} (h : w.ownsRow B e z v n xs) : ∃ a c, v = .slice a n c := by
  obtain ⟨a, c, e, -⟩ := own_shape h
  exact ⟨a, c, e⟩
theorem step_k {T : Type} {G : (Nat → Prop) → World → T → Prop} (keep : KeepG G) {w5 w7 w8 : World} {Oth Oth' O' : Nat → Prop} {v v' : Value} {ls : List T} {s' : T}
    (hG : ∀ s ∈ ls, G (fun b => Ob v b ∨ Oth b) w5 s) (k57 : Kc (fun b => Ob v b ∨ Oth b) w5 w7) (ho : ∀ b, b < w5.heap.size → Oth' b → Oth b) (hs : G O' w7 s') (ho' : ∀ b, b < w7.heap.size → Ob v b ∨ Oth' b → O' b) (hsz : w5.heap.size ≤ w7.heap.size) (hkp : Kp (Ob v) w7 w8) (hnew : ∀ b, Ob v' b → Ob v b ∨ w7.heap.size ≤ b) : ∀ s ∈ ls ++ [s'], G (fun b => Ob v' b ∨ Oth' b) w8 s := fun s hm => by
  rcases List.mem_append.1 hm with hm | hm
  · refine keep (fun b => Ob v b ∨ Oth' b) _ _ _ _ (keep _ _ _ _ _ (hG s hm) k57 (fun b hb q => q.imp id (ho b hb))) (Kc.of_kp hkp (fun b _ q => .inl q)) (fun b hb q => ?_)
    rcases q with q | q
    · rcases hnew b q with q | q
      · exact .inl q
      · omega
    · exact .inr q
  · rw [List.mem_singleton] at hm
    subst hm
    refine keep _ _ _ _ _ hs (Kc.of_kp hkp (fun b hb q => ho' b hb (.inl q))) (fun b hb q => ?_)
    rcases q with q | q
    · rcases hnew b q with q | q
      · exact ho' b hb (.inl q)
      · omega
    · exact ho' b hb (.inr q)
theorem rsub_of_own {K : Type} {G : (Nat → Prop) → World → SubR K → Prop} (keep : KeepG G) {O O' : Nat → Prop} {w : World} {B n c : Nat} {a : Option Addr} {ls : List (SubR K)} (hl : ls.length = n) (hO : w.ownsRow B 107 3 (.slice a n c) n (flat SubR.cells ls)) (hG : ∀ s ∈ ls, G O w s) (ho : ∀ b, b < w.heap.size → O' b → O b) (hB : ∀ b, Ob (.slice a n c) b → ¬ O' b) : RSub G O' w a ls := fun i s hi => by
  have hil : i < n := by rw [← hl]; exact (List.getElem?_eq_some_iff.1 hi).1
  obtain ⟨g, c9, e9, hg1, hg2, -, -⟩ := own_some hO (by omega)
  injection e9 with e9 _ _
  subst e9
  exact ⟨g, rfl, hB g rfl, fun j v hj => own_at SubR.len hO hi hj, keep _ _ _ _ _ (hG s (List.mem_of_getElem? hi)) (fun _ _ q _ => q) ho⟩
theorem rcp_of_own {K : Type} {G : (Nat → Prop) → World → SubR K → Prop} (keep : KeepG G) {O O' : Nat → Prop} {w : World} {B n c : Nat} {a : Option Addr} {ls : List (CpR K)} (hl : ls.length = n) (hO : w.ownsRow B 40 6 (.slice a n c) n (flat CpR.cells ls)) (hG : ∀ s ∈ ls, GCp G O w s) (ho : ∀ b, b < w.heap.size → O' b → O b) (hB : ∀ b, Ob (.slice a n c) b → ¬ O' b) : RCp G O' w a ls := fun i s hi => by
  have hil : i < n := by rw [← hl]; exact (List.getElem?_eq_some_iff.1 hi).1
  obtain ⟨g, c9, e9, hg1, hg2, -, -⟩ := own_some hO (by omega)
  injection e9 with e9 _ _
  subst e9
  exact ⟨g, rfl, hB g rfl, fun j v hj => own_at CpR.len hO hi hj, GCp.keep keep _ _ _ _ _ (hG s (List.mem_of_getElem? hi)) (fun _ _ q _ => q) ho⟩
theorem rcx_of_own {K : Type} {G : (Nat → Prop) → World → SubR K → Prop} (keep : KeepG G) {O O' : Nat → Prop} {w : World} {B n c : Nat} {a : Option Addr} {ls : List (CxR K)} (hl : ls.length = n) (hO : w.ownsRow B 110 1 (.slice a n c) n (flat CxR.cells ls)) (hG : ∀ s ∈ ls, GCx G O w s) (ho : ∀ b, b < w.heap.size → O' b → O b) (hB : ∀ b, Ob (.slice a n c) b → ¬ O' b) : RCx G O' w a ls := fun i s hi => by
  have hil : i < n := by rw [← hl]; exact (List.getElem?_eq_some_iff.1 hi).1
  obtain ⟨g, c9, e9, hg1, hg2, -, -⟩ := own_some hO (by omega)
  injection e9 with e9 _ _
  subst e9
  refine ⟨g, rfl, hB g rfl, ?_, GCx.keep keep _ _ _ _ _ (hG s (List.mem_of_getElem? hi)) (fun _ _ q _ => q) ho⟩
  have := own_at CxR.len hO hi (j := 0) (u := .slice s.a s.ls.length s.c) rfl
  simpa using this
theorem room_kept {w w' : World} {T : Nat → Prop} {b n : Nat} (h : Room w b n) (hk : Kp T w w') (hT : ¬ T b) : Room w' b n := fun j hj => by
  obtain ⟨v, h1, h2⟩ := h j hj
  exact ⟨v, hk.cell h1 hT, hk.froz h1 h2 hT⟩
/-- the key of a compound of the law's own -/
def Cm.key (c : Cm) : CK ByteArray := ⟨c.cb, c.am, c.nm⟩
def CmpP (c : Cm) (w : World) (e : Ending) (w' : World) : Prop := ∃ r : CpR ByteArray, e = .returned (.agg r.arr) ∧ r.key = c.key ∧ GCp G0 (fun b => b < w.heap.size) w' r ∧ Below w.heap.size w w'
/-- 'out.SubclassSelectors = append(.., pseudo(name))': what each operation of the head gives -/
def R8 (V P : Nat) (u nv : Value) (i nb no : Nat) (s : ByteArray) (M : Nat) (k : Nat) (v : Value) (W : World) : Prop :=
  (k = 0 → v = .pointer (some ⟨V, 1, none⟩)) ∧ (k = 1 → v = u) ∧ (k = 2 → v = .pointer (some ⟨P, 2, none⟩)) ∧ (k = 3 → v = nv) ∧ (k = 4 → v = .int .i64 i) ∧ (k = 5 → v = .pointer (some ⟨nb, no + i, none⟩)) ∧ (k = 6 → v = .string s) ∧ (k = 7 → ∃ t : SubR ByteArray, v = .agg t.arr ∧ t.k = s ∧ G0 (fun b => b < M) W t) ∧ (k = 8 → ∃ (t : SubR ByteArray) (bk : Nat), v = .slice (some ⟨bk, 0, none⟩) 1 1 ∧ M ≤ bk ∧ NewAt W bk t.arr 107 ∧ t.k = s ∧ G0 (fun b => b < M) W t)
theorem R8.after {V P : Nat} {u nv : Value} {i nb no : Nat} {s : ByteArray} {M : Nat} (k : Nat) (v : Value) (W W' : World) (hb : Below W.heap.size W W') (h : R8 V P u nv i nb no s M k v W) : R8 V P u nv i nb no s M k v W' := by
  obtain ⟨h0, h1, h2, h3, h4, h5, h6, h7, h8⟩ := h
  refine ⟨h0, h1, h2, h3, h4, h5, h6, fun q => ?_, fun q => ?_⟩
  · obtain ⟨t, e1, e2, e3⟩ := h7 q
    exact ⟨t, e1, e2, G0.keep _ _ _ _ _ e3 (Kc.of_below hb) (fun _ _ q => q)⟩
  · obtain ⟨t, bk, e1, e2, e3, e4, e5⟩ := h8 q
    refine ⟨t, bk, e1, e2, ?_, e4, G0.keep _ _ _ _ _ e5 (Kc.of_below hb) (fun _ _ q => q)⟩
    unfold NewAt at *
    rw [hb.block bk (Array.getElem?_eq_some_iff.1 e3).1]
    exact e3
theorem build8_c (c0 : Cm) (cb : Int) (am : Nat) (nm : List ByteArray) (n : Nat) (na : Option Addr) (nc : Nat) (hck : c0.key = ⟨cb, am, nm⟩) (hn : nm.length = n) (hn2 : n ≤ 1048576) (ha : am ≤ 255) (w : World) (hN : RN w na nm) : Calls Tryf.prog 8 #[.agg #[.int .u8 cb, .int .u8 am, .slice na n nc]] w (CmpP c0 w) := by
  replace hN := Lib.hid hN
  replace hn := Lib.hid hn
  replace hck := Lib.hid hck
  go_enter Tryf.func8, Tryf.ntmps8
  go_upto_region 2 with fail
  refine wp_gen (fun W hW => ?_)
  have bW : Hid (Below w.heap.size w W) := Lib.hid (by rw [hW]; exact ((ba _ _).alloc (by simp) _).alloc (by simp; omega) _)
  have sP : Hid (Seg W w.heap.size 0 [.int .u8 cb, .int .u8 am, .slice na n nc]) := Lib.hid (by
    rw [hW]
    exact ((Seg.new w [.int .u8 cb, .int .u8 am, .slice na n nc] _).after (ba _ _)).after (ba _ _))
  have rR : Hid (Room W (w.heap.size + 1) 6) := Lib.hid (by
    rw [hW]
    have := (Room.newN (w.alloc (.cells [.int .u8 cb, .int .u8 am, .slice na n nc].toArray 24)) #[.pointer none, .slice none 0 0, .slice none 0 0, .int .i32 0, .int .u8 0, .bool false] (n := 6) rfl 40).after (ba _ (.cells #[.pointer none, .slice none 0 0, .slice none 0 0, .int .i32 0, .int .u8 0, .bool false] 40))
    simpa using this)
  have rV : Hid (Room W (w.heap.size + 1 + 1) 6) := Lib.hid (by
    rw [hW]
    have := Room.newN ((w.alloc (.cells [.int .u8 cb, .int .u8 am, .slice na n nc].toArray 24)).alloc (.cells #[.pointer none, .slice none 0 0, .slice none 0 0, .int .i32 0, .int .u8 0, .bool false] 40)) #[.pointer none, .slice none 0 0, .slice none 0 0, .int .i32 0, .int .u8 0, .bool false] (n := 6) rfl 40
    simpa using this)
  have s0 : Hid (Seg W (w.heap.size + 1 + 1) 0 [.pointer none, .slice none 0 0, .slice none 0 0, .int .i32 0, .int .u8 0, .bool false]) := Lib.hid (by
    rw [hW]
    have := Seg.new ((w.alloc (.cells [.int .u8 cb, .int .u8 am, .slice na n nc].toArray 24)).alloc (.cells #[.pointer none, .slice none 0 0, .slice none 0 0, .int .i32 0, .int .u8 0, .bool false] 40)) [.pointer none, .slice none 0 0, .slice none 0 0, .int .i32 0, .int .u8 0, .bool false] 40
    simpa using this)
  clear hW
  obtain ⟨P, hP⟩ : ∃ y, w.heap.size = y := ⟨_, rfl⟩
  have hCP : Hid (∀ e W', CmpP c0 w e W' ↔ ∃ r : CpR ByteArray, e = .returned (.agg r.arr) ∧ r.key = c0.key ∧ GCp G0 (fun b => b < P) W' r ∧ Below P w W') := Lib.hid (fun e W' => by subst hP; exact Iff.rfl)
  rw [hP] at sP rR rV s0 bW ⊢
  replace hP := Lib.hid hP
  obtain ⟨R, hR⟩ : ∃ y, P + 1 = y := ⟨_, rfl⟩
  obtain ⟨V, hV⟩ : ∃ y, R + 1 = y := ⟨_, rfl⟩
  rw [hR] at rR
  rw [hR, hV] at rV s0
  rw [hR, hV]
  have lt1 : P < R := by omega
  have lt2 : R < V := by omega
  have lt3 : V < W.heap.size := rV.out.lt (by omega)
  clear hR hV
  obtain ⟨p0, p1, p2⟩ := segs3 sP.out
  obtain ⟨v0, v1, v2, v3, v4, v5⟩ := segs6 s0.out
  simp only [Nat.zero_add] at p0 p1 p2 v0 v1 v2 v3 v4 v5
  obtain ⟨_, _, f4⟩ := rV.out 4 (by omega)
  go_upto_region 3 with fail
  refine wp_gen (fun W1 hW => ?_)
  have o1 : Hid (Only (fun z => z = V) W W1) := Lib.hid (by rw [hW]; exact (Only.refl _).set _ _ rfl)
  have s1 : Hid (Seg W1 V 0 [.pointer none, .slice none 0 0, .slice none 0 0, .int .i32 0, .int .u8 cb, .bool false]) := Lib.hid (by rw [hW]; exact s0.out.set 4 (.int .u8 cb) (by simp))
  clear hW p0 p1 p2 v0 v1 v2 v3 v4 v5 f4 s0
  have sP1 := Lib.hid (sP.out.only o1.out (by omega))
  obtain ⟨p0, p1, p2⟩ := segs3 sP1.out
  obtain ⟨v0, v1, v2, v3, v4, v5⟩ := segs6 s1.out
  simp only [Nat.zero_add] at p0 p1 p2 v0 v1 v2 v3 v4 v5
  have rV1 := o1.out.rooms _ _ rV.out
  have rR1 := o1.out.rooms _ _ rR.out
  obtain ⟨_, _, f2⟩ := rV1 2 (by omega)
  have z1 := o1.out.size
  go_upto_if 11 with fail
  go_cut [] (fun wx => ∃ nx cx, Seg wx V 0 [.pointer none, .slice none 0 0, .slice nx am cx, .int .i32 0, .int .u8 cb, .bool false] ∧ RL (fun b => b < W.heap.size) wx nx am ∧ Only (fun z => z = V) W1 wx)
  case first =>
    by_cases h0 : am = 0
    · subst h0
      go_wp2
      go_meet
      exact ⟨none, 0, s1.out, (fun i hi => by omega), Only.refl _⟩
    · have h1 : (0 : Int) < am := by omega
      have C22 := Lib.hid (locs22_c am (by omega) W1)
      go_wp2_with (go_at_call 22; (with_reducible refine C22.out.mono ?_); rintro e w2 ⟨nx, cx, rfl, hRL, b2⟩; have f2' := af b2 v2 f2; replace v2 := ac b2 v2; replace hRL := Lib.hid hRL; replace b2 := Lib.hid b2)
      go_meet
      refine ⟨nx, cx, (s1.out.after b2.out).set 2 (.slice nx am cx) (by simp), ?_, (Only.of b2.out).set _ _ rfl⟩
      exact RL.keep hRL.out (Kc.of_only ((Only.refl _).set _ _ rfl : Only (fun z => z = V) _ _) (fun b _ e => by show b < W1.heap.size; omega)) (fun b _ q => by show b < W1.heap.size; have : b < W.heap.size := q; omega)
  case rest =>
    obtain ⟨nx, cx, hSg, hRL, hOn⟩ := hcut
    obtain ⟨W2, rfl⟩ : ∃ w1 : World, w1 = wc := ⟨_, rfl⟩
    replace hSg := Lib.hid hSg; replace hRL := Lib.hid hRL
    have hOn2 := Lib.hid (o1.out.trans hOn)
    clear p0 p1 p2 v0 v1 v2 v3 v4 v5 f2 rV1 rR1 hOn s1 sP1
    have z2 := hOn2.out.size
    have sP2 := Lib.hid (sP.out.only hOn2.out (by omega))
    have rR2 := Lib.hid (hOn2.out.rooms _ _ rR.out)
    have rV2 := Lib.hid (hOn2.out.rooms _ _ rV.out)
    have B2 : Hid (Below P w W2) := Lib.hid (bW.out.trans (hOn2.out.below P (by omega) (fun b e => by omega)))
    go_wp2
    go_loopw [4] (fun i wr => ∃ (k : Nat) (ls : List (SubR ByteArray)) (a : Option Addr) (c : Nat), k ≤ n ∧ i = .int .i64 k ∧ Seg wr V 0 [.pointer none, .slice a k c, .slice nx am cx, .int .i32 0, .int .u8 cb, .bool false] ∧ Room wr V 6 ∧ Room wr R 6 ∧ Seg wr P 0 [.int .u8 cb, .int .u8 am, .slice na n nc] ∧ wr.ownsRow W.heap.size 107 3 (.slice a k c) k (flat SubR.cells ls) ∧ ls.length = k ∧ (∀ s ∈ ls, G0 (fun b => Ob (.slice a k c) b ∨ b < W.heap.size) wr s) ∧ ls.map SubR.k = nm.take k ∧ RL (fun b => Ob (.slice a k c) b ∨ b < W.heap.size) wr nx am ∧ Below P w wr ∧ W.heap.size ≤ wr.heap.size) (fun i _ => n - (intOf i).toNat)
    case atStart => exact ⟨0, [], none, 0, by omega, rfl, hSg.out, rV2.out, rR2.out, sP2.out, World.ownsRow_nil _ _ _ _, rfl, (fun s h => by simp at h), rfl, RL.keep hRL.out (fun _ _ q _ => q) (fun b _ q => by rcases q with q | q; simp [Ob, Value.ownBlock] at q; exact q), B2.out, by omega⟩
    case round =>
      clear hSg hRL rV2 rR2 sP2 B2 hOn2
      obtain ⟨k, ls, a, c, hk, rfl, hSg, hRV, hRR, hSP, hO, hll, hG, hmap, hRL, hB, hWz⟩ := hrel
      obtain ⟨Wr, rfl⟩ : ∃ y, y = wr := ⟨_, rfl⟩
      have hVr : V < Wr.heap.size := hRV.lt (by omega)
      replace hSg := Lib.hid hSg; replace hRV := Lib.hid hRV; replace hRR := Lib.hid hRR; replace hSP := Lib.hid hSP; replace hO := Lib.hid hO; replace hll := Lib.hid hll; replace hG := Lib.hid hG; replace hmap := Lib.hid hmap; replace hRL := Lib.hid hRL; replace hB := Lib.hid hB
      obtain ⟨y0, y1, y2⟩ := segs3 hSP.out
      obtain ⟨x0, x1, x2, x3, x4, x5⟩ := segs6 hSg.out
      simp only [Nat.zero_add] at y0 y1 y2 x0 x1 x2 x3 x4 x5
      by_cases hlt : k < n
      · obtain ⟨s, hs⟩ : ∃ s, nm[k]? = some s := ⟨_, List.getElem?_eq_getElem (by rw [hn.out]; exact hlt)⟩
        have hwr : Below w.heap.size w Wr := by rw [hP.out]; exact hB.out
        obtain ⟨nb, no, rfl, hcs, hss⟩ := (hN.out.after hwr) k s hs
        have htk : Hid (nm.take (k + 1) = nm.take k ++ [s]) := Lib.hid (by rw [List.take_add_one, hs]; rfl)
        clear hs hwr
        have i0 : (0 : Int) ≤ k := by omega
        have i1 : (k : Int) < n := by omega
        go_upto_region 8 with fail
        refine QTail.drawn_rel 9 (R8 V P (.slice a k c) (.slice (some ⟨nb, no, none⟩) n nc) k nb no s Wr.heap.size) (by kernel_rfl) (by kernel_rfl) (fun i v W W' h1 h2 => R8.after i v W W' h1 h2) ?_ ?_
        · simp only [List.take_succ_cons, List.take_zero]
          refine ⟨?_, ?_, ?_, ?_, ?_, ?_, ?_, ?_, ?_, trivial⟩
          all_goals intro vs W' hC hd
          · clear hd hC
            simp only [QTail.putA, Nat.reduceAdd, Act.put, List.setIfInBounds_toArray, List.set_cons_succ, List.set_cons_zero]
            go_wp2
            exact ⟨⟨(fun _ => rfl), (fun q => by cases q), (fun q => by cases q), (fun q => by cases q), (fun q => by cases q), (fun q => by cases q), (fun q => by cases q), (fun q => by cases q), (fun q => by cases q)⟩, Below.refl _ _⟩
          · have e0 := (hd { on := 0, ground := Ground.data } (by simp) rfl).1 rfl
            have v1 : W'.cell? ⟨V, 1, none⟩ = some (.slice a k c) := ac hC x1
            clear hd hC
            simp only [QTail.putA, Nat.reduceAdd, Act.put, List.setIfInBounds_toArray, List.set_cons_succ, List.set_cons_zero]
            rw [e0]
            go_wp2
            exact ⟨⟨(fun q => by cases q), (fun _ => rfl), (fun q => by cases q), (fun q => by cases q), (fun q => by cases q), (fun q => by cases q), (fun q => by cases q), (fun q => by cases q), (fun q => by cases q)⟩, Below.refl _ _⟩
          · clear hd hC
            simp only [QTail.putA, Nat.reduceAdd, Act.put, List.setIfInBounds_toArray, List.set_cons_succ, List.set_cons_zero]
            go_wp2
            exact ⟨⟨(fun q => by cases q), (fun q => by cases q), (fun _ => rfl), (fun q => by cases q), (fun q => by cases q), (fun q => by cases q), (fun q => by cases q), (fun q => by cases q), (fun q => by cases q)⟩, Below.refl _ _⟩
          · have e2 := (hd { on := 2, ground := Ground.data } (by simp) rfl).2.2.1 rfl
            have p2 : W'.cell? ⟨P, 2, none⟩ = some (.slice (some ⟨nb, no, none⟩) n nc) := ac hC y2
            clear hd hC
            simp only [QTail.putA, Nat.reduceAdd, Act.put, List.setIfInBounds_toArray, List.set_cons_succ, List.set_cons_zero]
            rw [e2]
            go_wp2
            exact ⟨⟨(fun q => by cases q), (fun q => by cases q), (fun q => by cases q), (fun _ => rfl), (fun q => by cases q), (fun q => by cases q), (fun q => by cases q), (fun q => by cases q), (fun q => by cases q)⟩, Below.refl _ _⟩
          · clear hd hC
            simp only [QTail.putA, Nat.reduceAdd, Act.put, List.setIfInBounds_toArray, List.set_cons_succ, List.set_cons_zero]
            go_wp2
            exact ⟨⟨(fun q => by cases q), (fun q => by cases q), (fun q => by cases q), (fun q => by cases q), (fun _ => rfl), (fun q => by cases q), (fun q => by cases q), (fun q => by cases q), (fun q => by cases q)⟩, Below.refl _ _⟩
          · have e3 := (hd { on := 3, ground := Ground.data } (by simp) rfl).2.2.2.1 rfl
            have e4 := (hd { on := 4, ground := Ground.data } (by simp) rfl).2.2.2.2.1 rfl
            clear hd hC
            simp only [QTail.putA, Nat.reduceAdd, Act.put, List.setIfInBounds_toArray, List.set_cons_succ, List.set_cons_zero]
            rw [e3, e4]
            go_wp2
            exact ⟨⟨(fun q => by cases q), (fun q => by cases q), (fun q => by cases q), (fun q => by cases q), (fun q => by cases q), (fun _ => rfl), (fun q => by cases q), (fun q => by cases q), (fun q => by cases q)⟩, Below.refl _ _⟩
          · have e5 := (hd { on := 5, ground := Ground.data } (by simp) rfl).2.2.2.2.2.1 rfl
            have ns : W'.cell? ⟨nb, no + k, none⟩ = some (.string s) := ac hC hcs
            clear hd hC
            simp only [QTail.putA, Nat.reduceAdd, Act.put, List.setIfInBounds_toArray, List.set_cons_succ, List.set_cons_zero]
            rw [e5]
            go_wp2
            exact ⟨⟨(fun q => by cases q), (fun q => by cases q), (fun q => by cases q), (fun q => by cases q), (fun q => by cases q), (fun q => by cases q), (fun _ => rfl), (fun q => by cases q), (fun q => by cases q)⟩, Below.refl _ _⟩
          · have e6 := (hd { on := 6, ground := Ground.data } (by simp) rfl).2.2.2.2.2.2.1 rfl
            have hC' := Lib.hid hC
            have C23 := Lib.hid (pseudo23_c s hss W')
            clear hd hC
            simp only [QTail.putA, Nat.reduceAdd, Act.put, List.setIfInBounds_toArray, List.set_cons_succ, List.set_cons_zero]
            rw [e6]
            go_wp2_with (go_at_call 23; (with_reducible refine C23.out.mono ?_); rintro e w5 ⟨t, rfl, tk, tg, tb⟩; replace tg := Lib.hid tg; replace tb := Lib.hid tb)
            exact ⟨⟨(fun q => by cases q), (fun q => by cases q), (fun q => by cases q), (fun q => by cases q), (fun q => by cases q), (fun q => by cases q), (fun q => by cases q), (fun _ => ⟨t, rfl, tk, G0.keep _ _ _ _ _ tg.out (fun _ _ q _ => q) (fun b _ q => by have := hC'.out.size; show b < W'.heap.size; omega)⟩), (fun q => by cases q)⟩, tb.out⟩
          · obtain ⟨t, e7, tk, tg⟩ := (hd { on := 7, ground := Ground.data } (by simp) rfl).2.2.2.2.2.2.2.1 rfl
            have hC' := Lib.hid hC
            replace tg := Lib.hid tg
            clear hd hC
            simp only [QTail.putA, Nat.reduceAdd, Act.put, List.setIfInBounds_toArray, List.set_cons_succ, List.set_cons_zero]
            rw [e7]
            go_wp2
            exact ⟨⟨(fun q => by cases q), (fun q => by cases q), (fun q => by cases q), (fun q => by cases q), (fun q => by cases q), (fun q => by cases q), (fun q => by cases q), (fun q => by cases q), (fun _ => ⟨t, _, rfl, hC'.out.size, by show (W'.heap.push _)[W'.heap.size]? = _; simp, tk, G0.keep _ _ _ _ _ tg.out (Kc.of_below (ba _ _)) (fun _ _ q => q)⟩)⟩, ba _ _⟩
        · intro vs W3 b3 hR
          obtain ⟨t, bk, e8, hbk, hnb, htk2, htg⟩ := (hR 8 (by omega)).2.2.2.2.2.2.2.2 rfl
          have e1 := (hR 1 (by omega)).2.1 rfl
          replace hnb := Lib.hid hnb
          replace htg := Lib.hid htg
          replace b3 := Lib.hid b3
          clear hR
          simp only [List.take_succ_cons, List.take_zero, List.drop_succ_cons, List.drop_zero, QTail.putA, Nat.reduceAdd, Act.put, List.setIfInBounds_toArray, List.set_cons_succ, List.set_cons_zero]
          rw [e8, e1]
          clear e8 e1
          generalize vs 0 = z0
          generalize vs 2 = z2
          generalize vs 3 = z3
          generalize vs 4 = z4
          generalize vs 5 = z5
          generalize vs 6 = z6
          generalize vs 7 = z7
          clear vs
          have z3r := b3.out.size
          have hO3 := Lib.hid (own_below hO.out b3.out)
          obtain ⟨_, w1, f1⟩ := hRV.out 1 (by omega)
          have w1' := ac b3.out w1
          have f1' := af b3.out w1 f1
          clear w1 f1
          have hVn : Hid (¬ Ob (.slice a k c) V) := Lib.hid (fun q => by have := (hO.out.lt V q).1; omega)
          have hkN : k ≤ 1048576 := by omega
          go_upto_region 7 with (at_builtin; go_loud (refine app1g (W := W3) (.tmp 25) (.tmp 32) 33 107 W.heap.size 3 24 #[.nilIface, .int .i32 0, .int .i32 0] t.arr bk _ k _ rfl rfl rfl rfl hnb.out Tryf.underlying33 info107 rfl (by omega) hO3.out rfl (SubR.one t) hkN (by omega) (by omega) ?_); intro v' W4 hO4 hkp hnew; obtain ⟨a4, c4, hu⟩ := own_head hO4; subst hu; have w2' := hkp.cell w1' hVn.out; have f2' := hkp.froz w1' f1' hVn.out; replace hO4 := Lib.hid hO4; replace hkp := Lib.hid hkp; replace hnew := Lib.hid hnew)
          refine wp_gen (fun W5 hW => ?_)
          have kV : Hid (Kp (fun b => b = V) W4 W5) := Lib.hid (by rw [hW]; exact (Kp.refl _).set _ _ (.inl rfl))
          have z34 := hkp.out.size
          have z45 := kV.out.size
          have hnl : ∀ b, Ob (.slice a k c) b → W.heap.size ≤ b := fun b q => (hO.out.lt b q).1
          have hPn : ¬ Ob (.slice a k c) P := fun q => by have := hnl P q; omega
          have hRn : ¬ Ob (.slice a k c) R := fun q => by have := hnl R q; omega
          have s5 : Hid (Seg W5 V 0 [.pointer none, .slice a4 (k + 1) c4, .slice nx am cx, .int .i32 0, .int .u8 cb, .bool false]) := Lib.hid (by
            rw [hW]
            exact ((hSg.out.after b3.out).keep (O := Ob (.slice a k c)) (Kc.of_kp hkp.out (fun b _ q => q)) hVn.out).set 1 (.slice a4 (k + 1) c4) (by simp))
          have hW2 := Lib.hid hW
          clear hW
          have kc : ∀ O : Nat → Prop, (∀ b, b < Wr.heap.size → Ob (.slice a k c) b ∨ b = V → O b) → Kc O Wr W5 := fun O hOO x v hc hx => kV.out.cell (hkp.out.cell (ac b3.out hc) (fun q => hx (hOO _ (block_lt_of_cell hc) (.inl q)))) (fun q => hx (hOO _ (block_lt_of_cell hc) (.inr q)))
          have hVn2 : ¬ Ob (.slice a4 (k + 1) c4) V := fun q => by
            rcases hnew.out V q with q | q
            · exact hVn.out q
            · omega
          have hGn := step_k G0.keep (Oth' := fun b => b < W.heap.size) hG.out (Kc.of_below b3.out) (fun _ _ q => q) htg.out (fun b hb q => by
            rcases q with q | q
            · have := (hO.out.lt b q).2; exact this
            · show b < Wr.heap.size; omega) z3r hkp.out hnew.out
          have hG5 : ∀ s ∈ ls ++ [t], G0 (fun b => Ob (.slice a4 (k + 1) c4) b ∨ b < W.heap.size) W5 s := fun s hs => G0.keep _ _ _ _ _ (hGn s hs) (Kc.of_kp kV.out (fun b _ q => .inr (by omega))) (fun _ _ q => q)
          have RR : ∃ (k' : Nat) (ls : List (SubR ByteArray)) (a : Option Addr) (c : Nat), k' ≤ n ∧ Value.int .i64 ((k : Int) + 1) = .int .i64 k' ∧ Seg W5 V 0 [.pointer none, .slice a k' c, .slice nx am cx, .int .i32 0, .int .u8 cb, .bool false] ∧ Room W5 V 6 ∧ Room W5 R 6 ∧ Seg W5 P 0 [.int .u8 cb, .int .u8 am, .slice (some ⟨nb, no, none⟩) n nc] ∧ W5.ownsRow W.heap.size 107 3 (.slice a k' c) k' (flat SubR.cells ls) ∧ ls.length = k' ∧ (∀ s ∈ ls, G0 (fun b => Ob (.slice a k' c) b ∨ b < W.heap.size) W5 s) ∧ ls.map SubR.k = nm.take k' ∧ RL (fun b => Ob (.slice a k' c) b ∨ b < W.heap.size) W5 nx am ∧ Below P w W5 ∧ W.heap.size ≤ W5.heap.size := by
            refine ⟨k + 1, ls ++ [t], a4, c4, by omega, by go_num, s5.out, ?_, ?_, ?_, ?_, by simp [hll.out], hG5, by rw [List.map_append, hmap.out, htk.out]; simp [htk2], ?_, ?_, by omega⟩
            · exact fun j hj => by
                obtain ⟨v, h1, h2⟩ := room_kept (room_kept (T := fun _ => False) hRV.out (Kp.of b3.out) id) hkp.out hVn.out j hj
                have h3 := s5.out j
                have hlen : j < [Value.pointer none, .slice a4 (k + 1) c4, .slice nx am cx, .int .i32 0, .int .u8 cb, .bool false].length := hj
                have h4 := h3 _ (List.getElem?_eq_getElem hlen)
                rw [Nat.zero_add] at h4
                exact ⟨_, h4, by
                  have := kV.out
                  rw [hW2.out]
                  rw [fz]; exact h2⟩
            · exact room_kept (room_kept (room_kept (T := fun _ => False) hRR.out (Kp.of b3.out) id) hkp.out hRn) kV.out (by omega)
            · exact (hSP.out.keep (kc (fun b => Ob (.slice a k c) b ∨ b = V) (fun _ _ q => q)) (fun q => by rcases q with q | q; exact hPn q; omega))
            · rw [← flat_add]; exact kV.out.own hO4.out (fun b q e => hVn2 (by rw [← e]; exact q))
            · exact RL.keep hRL.out (kc _ (fun b hb q => by rcases q with q | q; exact .inl q; exact .inr (by omega))) (fun b hb q => by
                rcases q with q | q
                · rcases hnew.out b q with q | q
                  · exact .inl q
                  · omega
                · exact .inr q)
            · exact hB.out.trans ((b3.out.mono (by have := hP.out; have := hB.out.size; omega)).trans ((hkp.out.below (by have := hP.out; have := hB.out.size; omega) (fun b q => by have := hnl b q; omega)).trans (kV.out.below (by have := hP.out; have := hB.out.size; omega) (fun b e => by omega))))
          replace RR := Lib.hid RR
          go_wp2
          exact ⟨RR.out, by simp [intOf] <;> omega⟩
      · obtain rfl : k = n := by omega
        obtain ⟨_, r0, q0⟩ := hRR.out 0 (by omega); obtain ⟨_, r1, q1⟩ := hRR.out 1 (by omega); obtain ⟨_, r2, q2⟩ := hRR.out 2 (by omega); obtain ⟨_, r3, q3⟩ := hRR.out 3 (by omega); obtain ⟨_, r4, q4⟩ := hRR.out 4 (by omega); obtain ⟨_, r5, q5⟩ := hRR.out 5 (by omega)
        go_wp2
        have hF : CmpP c0 w (.returned (.agg (CpR.arr (⟨a, c, ls, nx, am, cx, cb⟩ : CpR ByteArray)))) ((((((Wr.setCell ⟨R, 0, none⟩ (.pointer none)).setCell ⟨R, 1, none⟩ (.slice a k c)).setCell ⟨R, 2, none⟩ (.slice nx am cx)).setCell ⟨R, 3, none⟩ (.int .i32 0)).setCell ⟨R, 4, none⟩ (.int .u8 cb)).setCell ⟨R, 5, none⟩ (.bool false)) := by
          have Z : ∀ (w1 : World) (j : Nat) (v : Value), Kp (fun b => b = R) Wr w1 → Kp (fun b => b = R) Wr (w1.setCell ⟨R, j, none⟩ v) := fun w1 j v hh => hh.set _ _ (.inl rfl)
          have K := Z _ 5 (.bool false) (Z _ 4 (.int .u8 cb) (Z _ 3 (.int .i32 0) (Z _ 2 (.slice nx am cx) (Z _ 1 (.slice a k c) (Z _ 0 (.pointer none) (Kp.refl Wr))))))
          refine (hCP.out _ _).2 ⟨_, rfl, ?_, ?_, hB.out.trans (K.below (by have := hP.out; have := hB.out.size; omega) (fun b e => by omega))⟩
          · rw [hck.out]
            show (⟨cb, am, ls.map SubR.k⟩ : CK ByteArray) = _
            rw [hmap.out, List.take_of_length_le (by rw [hn.out]; exact Nat.le_refl _)]
          · have hR2 : ∀ b, b < Wr.heap.size → b = R → Ob (.slice a k c) b ∨ b < W.heap.size := fun b _ e => .inr (by omega)
            refine ⟨RSub.keep G0.keep (rsub_of_own (O' := fun b => b < W.heap.size) G0.keep hll.out hO.out hG.out (fun b _ q => .inr q) (fun b q q' => by have := (hO.out.lt b q).1; omega)) (Kc.of_kp K (fun b _ e => by show b < W.heap.size; omega)) (fun b _ q => by show b < W.heap.size; have : b < P := q; omega), by show ls.length ≤ maxLen; rw [hll.out]; unfold maxLen; omega, RL.keep hRL.out (Kc.of_kp K hR2) (fun b _ q => .inr (by have : b < P := q; omega))⟩
        have harr : (CpR.arr (⟨a, c, ls, nx, am, cx, cb⟩ : CpR ByteArray)) = #[.pointer none, .slice a k c, .slice nx am cx, .int .i32 0, .int .u8 cb, .bool false] := by show #[_, Value.slice a ls.length c, _, _, _, _] = _; rw [hll.out]
        rw [harr] at hF
        exact bodyPost_ret (v := .agg #[.pointer none, .slice a k c, .slice nx am cx, .int .i32 0, .int .u8 cb, .bool false]) (by simp [results, Tryf.results8, go_sem, r0, r1, r2, r3, r4, r5]) rfl hF
end Go.Proofs.YtjigljpodkfchaaFmt
