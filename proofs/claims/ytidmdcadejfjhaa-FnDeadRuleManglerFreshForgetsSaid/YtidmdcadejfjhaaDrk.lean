/- FnDeadRuleManglerFreshForgets: RemoveDeadRulesInPlace. -/
import Derived.Test.YtidmdcadejfjhaaDrj
import Derived.Test.YtidmdcadejfjhaaRl
import Derived.WalkMore
import Derived.Deep.LoopGhost
import Derived.BigRegion
set_option linter.unusedVariables false
set_option linter.unusedSimpArgs false
namespace Go.Proofs.Ytidmdcadejfjhaa
open Go.RowKit
open Go.Maps (Keyed keyOf_int_mk int_keyed atKey_put_same atKey_put_other)
set_option maxRecDepth 100000
set_option maxHeartbeats 4000000
theorem law35 : Keyed Try.prog 35 := int_keyed Try.underlying35
theorem wf32 {x : Int} (h0 : 0 ≤ x) (h1 : x < 4294967296) : (Lit.int .u32 x).wf = true := by
  simp [Lit.wf, IntKind.min, IntKind.max, IntKind.signed, IntKind.bits]
  omega
theorem zE72 (W : World) : (zeroValue 72).run Try.prog W = .ok zEn W := by kernel_rfl
theorem MS.look {O : Nat → Prop} {L Rm bm : Nat} {ca : Option Addr} {cc : Nat} {sis : List Int} {E : Int → ERow} {S : List KeyR} {N : Nat} {w : World} (h : MS O L Rm bm ca cc sis E S N w) {x : Int} (hx0 : 0 ≤ x) (hx1 : x < 4294967296) : (Instr.lookup 29 (.map (some bm)) (.int .u32 x) false).run Try.prog w = .ok (.agg #[(E x).v]) w := by
  obtain ⟨D, hD, hD2⟩ := h.map
  obtain ⟨v, ps, hrun, hv⟩ := hD.lookup law35 Try.underlying29 (zE72 w) (zd := .held zEn) (zp := []) rfl (keyOf_int_mk Try.underlying35 (wf32 hx0 hx1))
  rw [hD2 x hx0 hx1] at hv
  unfold RV at hv
  injection hv with hv
  injection hv with hv _
  injection hv with hv
  rw [← hv]
  exact hrun
def RowRl (w : World) (g n : Nat) (F : Nat → RlR) : Prop := (∀ j, j < n → Seg w g (j * 2) (F j).cells) ∧ Room w g (n * 2)
theorem RowRl.kp {w w' : World} {g n : Nat} {F : Nat → RlR} {T : Nat → Prop} (h : RowRl w g n F) (hk : Kp T w w') (hT : ¬ T g) : RowRl w' g n F := ⟨fun j hj i v hi => hk.cell (h.1 j hj i v hi) hT, room_kept h.2 hk hT⟩
theorem RowRl.below {w w' : World} {g n : Nat} {F : Nat → RlR} (h : RowRl w g n F) (hb : Below w.heap.size w w') : RowRl w' g n F := h.kp (T := fun _ => False) (Kp.of hb) id
theorem RowRl.set {w : World} {g n : Nat} {F : Nat → RlR} (h : RowRl w g n F) {s : Nat} (hs : s < n) (r : RlR) : RowRl ((w.setCell ⟨g, s * 2, none⟩ (.iface 64 (.pointer (some ⟨r.B, 0, none⟩)))).setCell ⟨g, s * 2 + 1, none⟩ (.int .i32 r.loc)) g n (fun j => if j = s then r else F j) := by
  refine ⟨fun j hj => ?_, (h.2.setA _ _).setA _ _⟩
  obtain ⟨v0, g0, -⟩ := h.2 (s * 2) (by omega)
  obtain ⟨v1, g1, -⟩ := h.2 (s * 2 + 1) (by omega)
  by_cases e : j = s
  · subst e
    simp only [if_pos]
    intro i v hi
    match i, hi with
    | 0, hi =>
      show (_ : World).cell? ⟨g, j * 2, none⟩ = some v
      rw [co (by intro q; injection q; omega), cs g0]
      exact hi
    | 1, hi =>
      have hc : (w.setCell ⟨g, j * 2, none⟩ (.iface 64 (.pointer (some ⟨r.B, 0, none⟩)))).cell? ⟨g, j * 2 + 1, none⟩ = some v1 := by rw [co (by intro q; injection q; omega)]; exact g1
      rw [cs hc]
      exact hi
    | i + 2, hi => simp [RlR.cells] at hi
  · simp only [if_neg e]
    intro i v hi
    have hi2 : i < 2 := by
      have := (List.getElem?_eq_some_iff.1 hi).1
      rw [RlR.len] at this
      exact this
    rw [co (by intro q; injection q; omega), co (by intro q; injection q; omega)]
    exact h.1 j hj i v hi
/-- what is seen, and what is kept, behind m rules from the end -/
def stp (K : Nat → KeyR) (n : Nat) (S : List KeyR) : Nat → List KeyR × List Nat
  | 0 => (S, [])
  | m + 1 => if deadR (K (n - 1 - m)) || decide (K (n - 1 - m) ∈ (stp K n S m).1) then stp K n S m else (K (n - 1 - m) :: (stp K n S m).1, (n - 1 - m) :: (stp K n S m).2)
theorem stp_len (K : Nat → KeyR) (n : Nat) (S : List KeyR) : ∀ m, (stp K n S m).2.length ≤ m
  | 0 => by simp [stp]
  | m + 1 => by
    have := stp_len K n S m
    rw [stp]
    split
    · omega
    · simp; omega
theorem mr64h (a : Addr) (W : World) : (method 306 64 (.pointer (some a)) "Hash").run Try.prog W = .ok (46, .pointer (some a)) W := by kernel_rfl
theorem mr64e (a : Addr) (W : World) : (method 306 64 (.pointer (some a)) "Equal").run Try.prog W = .ok (45, .pointer (some a)) W := by kernel_rfl
theorem info63 : (Try.prog.info? 63).map (fun i => (i.zero.map (·.cells), i.size, i.bytes)) = some (some #[.slice none 0 0, .int .u32 0], 2, 32) := by kernel_rfl
theorem info74 : (Try.prog.info? 74).map (fun i => (i.zero.map (·.cells), i.size, i.bytes)) = some (some #[.nilIface, .int .u32 0], 2, 24) := by kernel_rfl
theorem callC_len (x : Int) : (callC x).length = 2 := rfl
structure LM (O : Nat → Prop) (L Rm bm : Nat) (ca : Option Addr) (cc : Nat) (sis : List Int) (S : List KeyR) (N g n : Nat) (G : Nat → RlR) (w : World) (m s : Nat) (E : Int → ERow) (F : Nat → RlR) (Nm : Nat) (wr : World) : Prop where
  le : m ≤ n
  ls : s + (stp (fun j => (G j).key) n S m).2.length = n
  ms : MS O L Rm bm ca cc sis E (stp (fun j => (G j).key) n S m).1 Nm wr
  nm : Nm ≤ N + m
  row : RowRl wr g n F
  old : ∀ j, j < n - m → F j = G j
  out : ∀ k x, (stp (fun j => (G j).key) n S m).2[k]? = some x → F (s + k) = G x
  dat : ∀ j, j < n → GRl O wr (G j)
  gd : ¬ Dy Rm bm ca cc sis E g
  kpt : Kp (fun b => b = g ∨ L ≤ b) w wr
theorem MS.call {O : Nat → Prop} {L Rm bm : Nat} {ca ca2 : Option Addr} {cc cc2 : Nat} {sis : List Int} {si : Int} {E : Int → ERow} {S : List KeyR} {N : Nat} {w w1 : World} (h : MS O L Rm bm ca cc sis E S N w) (hO1 : w1.ownsRow L 63 2 (.slice ca2 (sis.length + 1) cc2) (sis.length + 1) (flat callC sis ++ callC si)) (hk : Kp (Ob (.slice ca sis.length cc)) w w1) (hnew : ∀ b, Ob (.slice ca2 (sis.length + 1) cc2) b → Ob (.slice ca sis.length cc) b ∨ w.heap.size ≤ b) (hOn : ∀ b, w.heap.size ≤ b → O b) : MS O L Rm bm ca2 cc2 (sis ++ [si]) E S N (w1.setCell ⟨Rm, 1, none⟩ (.slice ca2 (sis.length + 1) cc2)) := by
  have hlen : (sis ++ [si]).length = sis.length + 1 := by simp
  have ltR := h.dylt (b := Rm) (.inl rfl)
  have ltM := h.dylt (b := bm) (.inr (.inl rfl))
  have hR : ¬ Ob (.slice ca sis.length cc) Rm := fun q => (h.nC _ q).1 rfl
  have hM : ¬ Ob (.slice ca sis.length cc) bm := fun q => (h.nC _ q).2 rfl
  have k2 : Kp (fun b => b = Rm) w1 (w1.setCell ⟨Rm, 1, none⟩ (.slice ca2 (sis.length + 1) cc2)) := (Kp.refl w1).set _ _ (.inl rfl)
  have hnv : ∀ b, Ob (.slice ca2 (sis.length + 1) cc2) b → b ≠ Rm ∧ b ≠ bm := fun b q => by
    rcases hnew b q with q | q
    · exact h.nC b q
    · exact ⟨by omega, by omega⟩
  obtain ⟨D, hD, hD2⟩ := h.map
  exact { h with
    c0 := by rw [co (by intro q; injection q; omega)]; exact hk.cell h.c0 hR
    c1 := by rw [cs (hk.cell h.c1 hR), hlen]
    room := (room_kept h.room hk hR).setA _ _
    calls := by rw [hlen, ← flat_add]; exact k2.own hO1 (fun k q q' => (hnv k q).1 q')
    map := ⟨D, map_kept (map_kept hD hk hM) k2 (fun q => h.nM q.symm), hD2⟩
    rows := fun x => k2.own (hk.own (h.rows x) (own_ne (h.rows x) h.calls (by decide))) (fun k q q' => (h.nE x k q).1 q')
    data := fun x e he => ⟨GRl.keep _ _ _ _ _ (GRl.keep _ _ _ _ _ (h.data x e he).1 (Kc.of_kp hk (fun b _ q => h.oC b q)) (fun _ _ q => q)) (Kc.of_kp k2 (fun b _ q => by rw [q]; exact h.oR)) (fun _ _ q => q), by rw [hlen]; have := (h.data x e he).2; omega⟩
    oC := fun b q => by
      rw [hlen] at q
      rcases hnew b q with q | q
      · exact h.oC b q
      · exact hOn b q
    nC := fun b q => by rw [hlen] at q; exact hnv b q }
theorem und24 : Try.prog.underlying 24 = some (.slice (Try.prog.elem 24)) := by kernel_rfl
theorem sz24 (w : World) : (sizeOf (Try.prog.elem 24)).run Try.prog w = .ok 2 w := by
  have e : Try.prog.elem 24 = 59 := by kernel_rfl
  have h : (sizeOf 59).run Try.prog w = .ok 2 w := by kernel_rfl
  rw [e]; exact h
theorem addN (A q n : Nat) : (⟨A, q, none⟩ : Addr).add n = ⟨A, q + n, none⟩ := by unfold Addr.add; split <;> simp_all
theorem sl24 (g n c s : Nat) (hs : s ≤ n) (hc : n ≤ c) : ∃ a', (s < n → a' = some ⟨g, s * 2, none⟩) ∧ ∀ W, (Instr.sliceAt 24 (.slice (some ⟨g, 0, none⟩) n c) (some (.int .i64 (s : Int))) none none).run Try.prog W = .ok (.slice a' (n - s) (c - s)) W := by
  by_cases h : c = s
  · refine ⟨some ⟨g, 0, none⟩, (fun q => by omega), fun W => ?_⟩
    rw [run_sliceAt_slice W 24 _ _ _ _ und24, run_slice_l W 24 _ _ _ und24 .i64 _ (by omega) (by omega), sz24]
    simp [Result.andThen, sliced, addN, h, Addr.add]
  · refine ⟨some ⟨g, s * 2, none⟩, (fun q => rfl), fun W => ?_⟩
    rw [run_sliceAt_slice W 24 _ _ _ _ und24, run_slice_l W 24 _ _ _ und24 .i64 _ (by omega) (by omega), sz24]
    simp [Result.andThen, sliced, addN, h]
section
variable {O : Nat → Prop} {L Rm bm : Nat} {ca : Option Addr} {cc : Nat} {sis : List Int} {S : List KeyR} {N g n : Nat} {G : Nat → RlR} {w : World} {m s : Nat} {E E' : Int → ERow} {F : Nat → RlR} {Nm : Nat} {wr wr' : World}
theorem LM.add (h : LM O L Rm bm ca cc sis S N g n G w m s E F Nm wr) {x s1 : Nat} (hx : x + m + 1 = n) (hs1 : s1 + 1 = s) (hd : deadR (G x).key = false) (hnin : (G x).key ∉ (stp (fun j => (G j).key) n S m).1) (hM : MS O L Rm bm ca cc sis E' ((G x).key :: (stp (fun j => (G j).key) n S m).1) (Nm + 1) wr') (hrow : RowRl wr' g n (fun j => if j = s1 then G x else F j)) (hdat : ∀ j, j < n → GRl O wr' (G j)) (hgd : ¬ Dy Rm bm ca cc sis E' g) (hkp : Kp (fun b => b = g ∨ L ≤ b) w wr') : LM O L Rm bm ca cc sis S N g n G w (m + 1) s1 E' (fun j => if j = s1 then G x else F j) (Nm + 1) wr' := by
  have e : stp (fun j => (G j).key) n S (m + 1) = ((G x).key :: (stp (fun j => (G j).key) n S m).1, x :: (stp (fun j => (G j).key) n S m).2) := by
    rw [stp, show n - 1 - m = x by omega, if_neg]
    rw [hd, decide_eq_false hnin]
    decide
  have hl := h.ls
  have hle := stp_len (fun j => (G j).key) n S m
  exact {
    le := by omega
    ls := by rw [e]; simp only [List.length_cons]; omega
    ms := by rw [e]; exact hM
    nm := by have := h.nm; omega
    row := hrow
    old := fun j hj => by
      rw [if_neg (by omega)]
      exact h.old j (by omega)
    out := fun k y hk => by
      rw [e] at hk
      match k, hk with
      | 0, hk =>
        simp at hk
        simp [hk]
      | k + 1, hk =>
        simp only [List.getElem?_cons_succ] at hk
        rw [if_neg (by omega), show s1 + (k + 1) = s + k by omega]
        exact h.out k y hk
    dat := hdat
    gd := hgd
    kpt := hkp }
end
def RemP (O : Nat → Prop) (L Rm bm : Nat) (sis : List Int) (si : Int) (S : List KeyR) (N g n : Nat) (G : Nat → RlR) (w : World) (e : Ending) (w' : World) : Prop := ∃ (s c' : Nat) (a' : Option Addr) (ca : Option Addr) (cc : Nat) (E : Int → ERow) (F : Nat → RlR) (Nm : Nat), e = .returned (.slice a' (stp (fun j => (G j).key) n S n).2.length c') ∧ (s < n → a' = some ⟨g, s * 2, none⟩) ∧ LM O L Rm bm ca cc (sis ++ [si]) S N g n G w n s E F Nm w'
section
variable {O : Nat → Prop} {L Rm bm : Nat} {ca : Option Addr} {cc : Nat} {sis : List Int} {S : List KeyR} {N g n : Nat} {G : Nat → RlR} {w : World} {m s : Nat} {E : Int → ERow} {F : Nat → RlR} {Nm : Nat} {wr wr' : World}
theorem LM.kp {T : Nat → Prop} (h : LM O L Rm bm ca cc sis S N g n G w m s E F Nm wr) (hk : Kp T wr wr') (hT : ∀ b, b < wr.heap.size → T b → O b ∧ ¬ Dy Rm bm ca cc sis E b ∧ b ≠ g ∧ w.heap.size ≤ b) (hM : MS O L Rm bm ca cc sis E (stp (fun j => (G j).key) n S m).1 Nm wr') (hg : g < wr.heap.size) : LM O L Rm bm ca cc sis S N g n G w m s E F Nm wr' :=
  { h with
    ms := hM
    row := h.row.kp hk (fun q => (hT g hg q).2.2.1 rfl)
    dat := fun j hj => GRl.keep _ _ _ _ _ (h.dat j hj) (Kc.of_kp hk (fun b hb q => (hT b hb q).1)) (fun _ _ q => q)
    kpt := h.kpt.trans' hk (fun b q hb => by have := (hT b (by have := h.kpt.size; omega) q).2.2.2; omega) }
theorem LM.below (h : LM O L Rm bm ca cc sis S N g n G w m s E F Nm wr) (hb : Below wr.heap.size wr wr') (hg : g < wr.heap.size) : LM O L Rm bm ca cc sis S N g n G w m s E F Nm wr' :=
  h.kp (T := fun _ => False) (Kp.of hb) (fun _ _ q => q.elim) (h.ms.below hb) hg
theorem LM.skip (h : LM O L Rm bm ca cc sis S N g n G w m s E F Nm wr) {x : Nat} (hx : x + m + 1 = n) (hs : deadR (G x).key = true ∨ (G x).key ∈ (stp (fun j => (G j).key) n S m).1) : LM O L Rm bm ca cc sis S N g n G w (m + 1) s E F Nm wr := by
  have e : stp (fun j => (G j).key) n S (m + 1) = stp (fun j => (G j).key) n S m := by
    rw [stp, show n - 1 - m = x by omega, if_pos]
    rcases hs with hs | hs
    · rw [hs]; rfl
    · rw [decide_eq_true hs]; simp
  exact { h with
    le := by omega
    ls := by rw [e]; exact h.ls
    ms := by rw [e]; exact h.ms
    nm := by have := h.nm; omega
    old := fun j hj => h.old j (by omega)
    out := by rw [e]; exact h.out }
end
theorem rem9_c (O : Nat → Prop) (L Rm bm : Nat) (ca : Option Addr) (cc : Nat) (sis : List Int) (E : Int → ERow) (S : List KeyR) (N g c n : Nat) (G : Nat → RlR) (si : Int) (w : World) (hM : MS O L Rm bm ca cc sis E S N w) (hRow : RowRl w g n G) (hdat : ∀ j, j < n → GRl O w (G j)) (hOn : ∀ b, w.heap.size ≤ b → O b) (hOg : O g) (hgd : ¬ Dy Rm bm ca cc sis E g) (hL : L ≤ w.heap.size) (hn : n ≤ 4096) (hnc : n ≤ c) (hgs : g < w.heap.size) (hN : N ≤ 100000) (hsis : sis.length ≤ 100) :
    Calls Try.prog 9 #[.pointer (some ⟨Rm, 0, none⟩), .int .u32 si, .slice (some ⟨g, 0, none⟩) n c, .slice none 0 0] w (RemP O L Rm bm sis si S N g n G w) := by
  have c1 := hM.c1
  obtain ⟨q, hq⟩ : ∃ q, sis.length = q := ⟨_, rfl⟩
  have hcO := Lib.hid hM.calls
  have hRn : Hid (¬ Ob (.slice ca sis.length cc) Rm) := Lib.hid (fun q => (hM.nC _ q).1 rfl)
  rw [hq] at c1 hsis hcO hRn
  obtain ⟨vv, hvv, f1⟩ := hM.room 1 (by omega)
  clear hvv vv
  have hkO : Hid (∀ b, Ob (.slice ca q cc) b → O b) := Lib.hid (by rw [← hq]; exact hM.oC)
  have hkg : Hid (¬ Ob (.slice ca q cc) g) := Lib.hid (by rw [← hq]; exact fun x => hgd (.inr (.inr (.inl x))))
  have hRg : Hid (Rm ≠ g) := Lib.hid (fun e => hgd (.inl e.symm))
  replace hM := Lib.hid hM; replace hRow := Lib.hid hRow; replace hdat := Lib.hid hdat; replace hgd := Lib.hid hgd; replace hOn := Lib.hid hOn
  replace hq := Lib.hid hq
  go_enter Try.func9, Try.ntmps9
  go_wp2
  go_step3
  go_upto_region 3 with (at_builtin; go_loud (refine app1n (w := w) (.tmp 33) (.tmp 37) 30 63 L 2 32 #[.slice none 0 0, .int .u32 0] #[.slice none 0 0, .int .u32 si] _ q _ rfl rfl rfl rfl rfl Try.underlying30 info63 rfl (by omega) hcO.out rfl (by simp [Value.oneCell']) (by omega) (by omega) hL ?_); intro calls2 W1 hO1 hkp hnew; obtain ⟨ca2, cc2, hu⟩ := own_head hO1; subst hu; have c1b := hkp.cell c1 hRn.out; have f1b := hkp.froz c1 f1 hRn.out; replace hkp := Lib.hid hkp; replace hO1 := Lib.hid hO1; replace hnew := Lib.hid hnew)
  refine wp_gen (fun W2 hW => ?_)
  have k12 : Hid (Kp (fun b => b = Rm) W1 W2) := Lib.hid (by rw [hW]; exact (Kp.refl _).set _ _ (.inl rfl))
  have hM2 : Hid (MS O L Rm bm ca2 cc2 (sis ++ [si]) E S N W2) := Lib.hid (by
    have := hM.out.call (si := si) (ca2 := ca2) (cc2 := cc2) (w1 := W1) (by rw [hq.out]; exact hO1.out) (by rw [hq.out]; exact hkp.out) (by rw [hq.out]; exact hnew.out) hOn.out
    rw [hq.out] at this
    rw [hW]; exact this)
  clear hW c1b f1b c1 f1
  have hgd2 : Hid (¬ Dy Rm bm ca2 cc2 (sis ++ [si]) E g) := Lib.hid (fun x => by
    rcases x with x | x | x | x
    · exact hgd.out (.inl x)
    · exact hgd.out (.inr (.inl x))
    · rw [show (sis ++ [si]).length = q + 1 by rw [List.length_append, hq.out]; rfl] at x
      rcases hnew.out g x with x | x
      · exact hkg.out x
      · omega
    · exact hgd.out (.inr (.inr (.inr x))))
  have hdat2 : Hid (∀ j, j < n → GRl O W2 (G j)) := Lib.hid (fun j hj => GRl.keep _ _ _ _ _ (GRl.keep _ _ _ _ _ (hdat.out j hj) (Kc.of_kp hkp.out (fun b _ x => hkO.out b x)) (fun _ _ q => q)) (Kc.of_kp k12.out (fun b _ x => by rw [x]; exact hM.out.oR)) (fun _ _ q => q))
  have hRow2 : Hid (RowRl W2 g n G) := Lib.hid ((hRow.out.kp hkp.out hkg.out).kp k12.out (fun e => hRg.out e.symm))
  have hK2 : Hid (Kp (fun b => b = g ∨ L ≤ b) w W2) := Lib.hid ((hkp.out.wide (fun b x => .inr (hcO.out.lt b x).1)).trans (k12.out.wide (fun b x => .inr (by rw [x]; exact hM.out.lR))))
  have h0 : Hid (LM O L Rm bm ca2 cc2 (sis ++ [si]) S N g n G w 0 n E G N W2) := Lib.hid ⟨by omega, by simp [stp], hM2.out, by omega, hRow2.out, fun j _ => rfl, (fun k x h => by simp [stp] at h), hdat2.out, hgd2.out, hK2.out⟩
  have hsq : Hid ((sis ++ [si]).length = q + 1) := Lib.hid (by rw [List.length_append, hq.out]; rfl)
  have hOn2 : Hid (∀ b, w.heap.size ≤ b → O b) := Lib.hid hOn.out
  have hL2 : L ≤ W2.heap.size := by have := hK2.out.size; omega
  have hgs2 : g < W2.heap.size := by have := hK2.out.size; omega
  clear hM hRow hdat hgd hOn hO1 hkp hnew k12 hM2 hgd2 hdat2 hRow2 hK2 hcO hkO hkg hRn hRg hq
  obtain ⟨sis2, hsis2⟩ : ∃ y, sis ++ [si] = y := ⟨_, rfl⟩
  rw [hsis2] at h0 hsq
  have hsi2 := Lib.hid hsis2
  clear hsis2
  go_wp2
  go_step3
  go_wp2
  go_loopw [11, 12] (fun st i wr => ∃ (m s : Nat) (E : Int → ERow) (F : Nat → RlR) (Nm : Nat), i = .int .i64 ((n : Int) - 1 - m) ∧ st = .int .i64 s ∧ LM O L Rm bm ca2 cc2 sis2 S N g n G w m s E F Nm wr) (fun _ i _ => (intOf i + 1).toNat)
  case atStart => exact ⟨0, n, E, G, N, by simp, rfl, h0.out⟩
  case round =>
    clear h0
    obtain ⟨m, s, E1, F, Nm, rfl, rfl, hL1⟩ := hrel
    obtain ⟨Wo, rfl⟩ : ∃ y, y = wr := ⟨_, rfl⟩
    have hmn := hL1.le
    by_cases hlt : m < n
    · obtain ⟨I, hI⟩ : ∃ I : Nat, I + m + 1 = n := ⟨n - 1 - m, by omega⟩
      have hI2 : (n : Int) - 1 - m = I := by omega
      rw [hI2]
      have hI3 : (I : Int) < n := by omega
      have hI0 : (0 : Int) ≤ I := by omega
      obtain ⟨r, hr⟩ : ∃ r, G I = r := ⟨_, rfl⟩
      have hs := hL1.row.1 I (by omega)
      rw [hL1.old I (by omega), hr] at hs
      have hGr := hL1.dat I (by omega)
      rw [hr] at hGr
      have d0 : Wo.cell? ⟨g, I * 2, none⟩ = some (.iface 64 (.pointer (some ⟨r.B, 0, none⟩))) := by simpa using hs 0 _ rfl
      have d1 : Wo.cell? ⟨g, I * 2 + 1, none⟩ = some (.int .i32 r.loc) := hs 1 _ rfl
      have hgo : g < Wo.heap.size := block_lt_of_cell d0
      have hwo := hL1.kpt.size
      have hk12 : Hid (deadR r.key = true → LM O L Rm bm ca2 cc2 sis2 S N g n G w m s E1 F Nm Wo → True) := Lib.hid (fun _ _ => trivial)
      clear hs hk12
      replace hr := Lib.hid hr; replace hGr := Lib.hid hGr; replace hL1 := Lib.hid hL1
      replace hI2 := Lib.hid hI2
      have ta := ta55_64
      go_upto_region 9 with fail
      refine wp_gen (fun W1 hW => ?_)
      have b1 : Hid (Below Wo.heap.size Wo W1) := Lib.hid (by rw [hW]; exact ba _ _)
      have n0 : W1.cell? ⟨Wo.heap.size, 0, none⟩ = some (.iface 64 (.pointer (some ⟨r.B, 0, none⟩))) := by rw [hW]; simp [go_sem]
      have n1 : W1.cell? ⟨Wo.heap.size, 1, none⟩ = some (.int .i32 r.loc) := by rw [hW]; simp [go_sem]
      have hPRlt : Wo.heap.size < W1.heap.size := block_lt_of_cell n0
      clear hW d0 d1
      have hG1 := Lib.hid (GRl.keep _ _ _ _ _ hGr.out (Kc.of_below b1.out) (fun _ _ q => q))
      have a0 := hG1.out.2.1 0 _ rfl
      simp only [Nat.zero_add] at a0
      have hrl := hG1.out.2.2.2
      have C16 := Lib.hid (dead16_c O r.a r.c r.ls r.ls.length rfl W1 hG1.out.2.2.1 hrl)
      obtain ⟨rn, hrn⟩ : ∃ y, r.ls.length = y := ⟨_, rfl⟩
      rw [hrn] at a0 C16
      cases hd : deadR (r.ls.map CxR.key)
      · rw [hd] at C16
        replace hd := Lib.hid hd
        have C46 := Lib.hid (fun W (hb : Below W1.heap.size W1 W) => rule46_c O r W (GRl.keep _ _ _ _ _ hG1.out (Kc.of_below hb) (fun _ _ q => q)))
        have mh := mr64h
        obtain ⟨h, hh⟩ : ∃ y, hRule r.key = y := ⟨_, rfl⟩
        have hh0 := hRule_rng r.key
        rw [hh] at C46 hh0
        replace hh := Lib.hid hh
        clear hrn
        go_upto_region 13 with (first | (go_at_call 16; (with_reducible refine C16.out.mono ?_); rintro e1 w2 ⟨rfl, b2⟩; replace b2 := Lib.hid b2; replace n0 := ac b2.out n0; replace n1 := ac b2.out n1) | (go_at_call 46; (with_reducible refine (C46.out _ b2.out).mono ?_); rintro e1 w3 ⟨rfl, b3⟩; replace b3 := Lib.hid b3; replace n0 := ac b3.out n0; replace n1 := ac b3.out n1))
        have bo3 := Lib.hid ((b1.out.trans (b2.out.mono b1.out.size)).trans (b3.out.mono (Nat.le_trans b1.out.size b2.out.size)))
        have hL3 := Lib.hid (hL1.out.below bo3.out hgo)
        have lk := fun W (hb : Below w3.heap.size w3 W) => (hL3.out.ms.below hb).look hh0.1 hh0.2
        have lk3 := hL3.out.ms.look hh0.1 hh0.2
        have c0 := hL3.out.ms.c0
        clear lk
        go_upto_region 14 with fail
        refine wp_gen (fun W4 hW => ?_)
        have b4 : Hid (Below w3.heap.size w3 W4) := Lib.hid (by rw [hW]; exact ba _ _)
        have e0 : W4.cell? ⟨w3.heap.size, 0, none⟩ = some (E1 h).v := by rw [hW]; simp [go_sem]
        have fe0 : W4.frozen? ⟨w3.heap.size, 0, none⟩ = false := by rw [hW]; simp [go_sem]
        clear hW lk3 c0
        replace n0 := ac b4.out n0; replace n1 := ac b4.out n1
        have bo4 := Lib.hid (bo3.out.trans (b4.out.mono bo3.out.size))
        have hM4 := Lib.hid (hL3.out.ms.below b4.out)
        have hL4 := Lib.hid (hL1.out.below bo4.out hgo)
        have hPE : Wo.heap.size ≤ w3.heap.size := bo3.out.size
        have hPR : Wo.heap.size < w3.heap.size := by
          have h2 := Nat.le_trans b2.out.size b3.out.size
          omega
        have hG4 := Lib.hid (GRl.keep _ _ _ _ _ hGr.out (Kc.of_below bo4.out) (fun _ _ q => q))
        clear hG1 hGr C16 C46 mh ta a0 hL3 b1 b2 b3 b4
        have hel := hM4.out.len h
        obtain ⟨el, hele⟩ : ∃ y, (E1 h).ls.length = y := ⟨_, rfl⟩
        have e0' : W4.cell? ⟨w3.heap.size, 0, none⟩ = some (.slice (E1 h).a el (E1 h).c) := by rw [← hele]; exact e0
        rw [hele] at hel
        have hNm := hL4.out.nm
        replace hele := Lib.hid hele
        clear e0
        have hRmPE : Hid (w3.heap.size ≠ Rm) := Lib.hid (fun e => by have := hL1.out.ms.dylt (b := Rm) (.inl rfl); have := bo3.out.size; omega)
        have hRmPR : Hid (Rm ≠ Wo.heap.size) := Lib.hid (fun e => by have := hL1.out.ms.dylt (b := Rm) (.inl rfl); omega)
        have hPEd : Hid (¬ Dy Rm bm ca2 cc2 sis2 E1 w3.heap.size) := Lib.hid (fun q => by have := hL1.out.ms.dylt q; have := bo3.out.size; omega)
        have hPEO : Hid (O w3.heap.size) := Lib.hid (hOn2.out _ (by have := hL1.out.kpt.size; have := bo3.out.size; omega))
        have hPRd : Hid (¬ Dy Rm bm ca2 cc2 sis2 E1 Wo.heap.size) := Lib.hid (fun q => by have := hL1.out.ms.dylt q; omega)
        have hPRg : Hid (Wo.heap.size ≠ g) := Lib.hid (fun e => by omega)
        have hPRPE : Hid (Wo.heap.size ≠ w3.heap.size) := Lib.hid (fun e => by omega)
        have hLPE : Hid (L ≤ w3.heap.size) := Lib.hid (by have := hL1.out.ms.lR; have := hL1.out.ms.dylt (b := Rm) (.inl rfl); have := bo3.out.size; omega)
        have hPEg : Hid (w3.heap.size ≠ g) := Lib.hid (fun e => by have := bo3.out.size; omega)
        generalize w3.heap.size = PE at *
        generalize Wo.heap.size = PR at *
        have hLW : Hid (∀ W, MS O L Rm bm ca2 cc2 sis2 E1 (stp (fun j => (G j).key) n S m).1 Nm W → Kp (fun b => b = Rm) W4 W → LM O L Rm bm ca2 cc2 sis2 S N g n G w m s E1 F Nm W) := Lib.hid (fun W h1 h2 => { hL4.out with
          ms := h1
          row := hL4.out.row.kp h2 (fun e => hL4.out.gd (.inl e))
          dat := fun j hj => GRl.keep _ _ _ _ _ (hL4.out.dat j hj) (Kc.of_kp h2 (fun b _ q => by rw [q]; exact hM4.out.oR)) (fun _ _ q => q)
          kpt := hL4.out.kpt.trans (h2.wide (fun b q => .inr (by rw [q]; exact hM4.out.lR))) })
        obtain ⟨ea, hea⟩ : ∃ y, (E1 h).a = y := ⟨_, rfl⟩
        rw [hea] at e0'
        obtain ⟨ec, hec⟩ : ∃ y, (E1 h).c = y := ⟨_, rfl⟩
        rw [hec] at e0'
        have hEv : Hid ((E1 h).v = .slice ea el ec) := Lib.hid (by rw [ERow.v, hea, hec, hele.out])
        clear hea hec
        go_wp2
        go_loopw [84] (fun j wr => ∃ k : Nat, k ≤ el ∧ j = .int .i64 k ∧ (∀ x ∈ (E1 h).ls.take k, x.r.key ≠ r.key) ∧ MS O L Rm bm ca2 cc2 sis2 E1 (stp (fun j => (G j).key) n S m).1 Nm wr ∧ Kp (fun b => b = Rm) W4 wr) (fun j _ => el - (intOf j).toNat)
        case atStart => exact ⟨0, by omega, rfl, (fun x hx => by simp at hx), hM4.out, Kp.refl _⟩
        case round =>
          obtain ⟨k, hk, rfl, hne, h5, k5⟩ := hrel
          obtain ⟨W5, rfl⟩ : ∃ y, y = wr := ⟨_, rfl⟩
          have hRPR : Hid (PR ≠ Rm) := Lib.hid (fun e => hRmPR.out e.symm)
          have hPErm : Hid (PE ≠ Rm) := Lib.hid hRmPE.out
          replace n0 := k5.cell n0 hRPR.out
          have hne1 := Lib.hid hne
          replace hne := hne1
          clear hne1
          have rE := h5.rows h
          rw [hEv.out, hele.out] at rE
          replace h5 := Lib.hid h5
          replace k5 := Lib.hid k5
          replace rE := Lib.hid rE
          by_cases hltk : k < el
          · obtain ⟨e, he⟩ : ∃ x, (E1 h).ls[k]? = some x := ⟨_, List.getElem?_eq_getElem (by rw [hele.out]; exact hltk)⟩
            obtain ⟨g2, c9, e9, hg2, -, -, -⟩ := own_some rE.out (show 0 < el by omega)
            injection e9 with e9a e9b e9c
            subst e9a
            have d0 : W5.cell? ⟨g2, k * 2, none⟩ = some (.iface 64 (.pointer (some ⟨e.r.B, 0, none⟩))) := by simpa using own_at EntR.len rE.out he (j := 0) (u := .iface 64 (.pointer (some ⟨e.r.B, 0, none⟩))) rfl
            have d1 : W5.cell? ⟨g2, k * 2 + 1, none⟩ = some (.int .u32 e.cc) := own_at EntR.len rE.out he (j := 1) (u := .int .u32 e.cc) rfl
            have hme := Lib.hid (List.mem_of_getElem? he)
            obtain ⟨hGe, hecc⟩ := h5.out.data h e hme.out
            have hts : Hid (∀ x ∈ (E1 h).ls.take (k + 1), x ∈ (E1 h).ls.take k ∨ x = e) := Lib.hid (fun x hx => by
              rw [List.take_add_one, he] at hx
              simpa using hx)
            rw [hsq.out] at hecc
            replace hGe := Lib.hid hGe
            clear he e9b e9c
            have q0 : (0 : Int) ≤ k := by omega
            have q1 : (k : Int) < el := by omega
            go_upto_region 17 with fail
            refine wp_gen (fun W6 hW => ?_)
            have b6 : Hid (Below W5.heap.size W5 W6) := Lib.hid (by rw [hW]; exact ba _ _)
            have p0 : W6.cell? ⟨W5.heap.size, 0, none⟩ = some (.iface 64 (.pointer (some ⟨e.r.B, 0, none⟩))) := by rw [hW]; simp [go_sem]
            have p1 : W6.cell? ⟨W5.heap.size, 1, none⟩ = some (.int .u32 e.cc) := by rw [hW]; simp [go_sem]
            clear hW d0 d1
            replace n0 := ac b6.out n0
            have h6 := Lib.hid (h5.out.below b6.out)
            have k6 := Lib.hid (k5.out.trans (Kp.of b6.out))
            have hGr6 := Lib.hid (GRl.keep _ _ _ _ _ hG4.out (Kc.of_kp k6.out (fun b _ q => by rw [q]; exact hM4.out.oR)) (fun _ _ q => q))
            have hGe6 := Lib.hid (GRl.keep _ _ _ _ _ hGe.out (Kc.of_below b6.out) (fun _ _ q => q))
            by_cases hcq : e.cc = q
            · have t1 : ((e.cc : Int) == (q : Int)) = true := by rw [hcq]; simp
              go_upto_region 25 with fail
              obtain ⟨W9, hW9⟩ : ∃ y, y = W6 := ⟨_, rfl⟩
              subst hW9
              have hGr9 := hGr6; have hGe9 := hGe6; have h9 := h6; have k9 := k6
              have C45 := Lib.hid (rule45_c O O r e.r (.pointer none) W9 hGr9.out hGe9.out)
              obtain ⟨bb, hbb⟩ : ∃ y, decide (r.key = e.r.key) = y := ⟨_, rfl⟩
              rw [hbb] at C45
              replace hbb := Lib.hid hbb
              have me := mr64e
              cases bb
              · go_wp2_with (go_at_call 45; (with_reducible refine C45.out.mono ?_); rintro e9 w10 ⟨rfl, b10⟩; replace b10 := Lib.hid b10)
                exact ⟨⟨k + 1, by omega, by go_num, (fun x hx => by
                  rcases hts.out x hx with hx | rfl
                  · exact hne.out x hx
                  · exact fun q => of_decide_eq_false hbb.out q.symm), h9.out.below b10.out, (k9.out.trans' (Kp.of b10.out : Kp (fun b => b = Rm) _ _) (fun b q _ => q))⟩, by simp [intOf] <;> omega⟩
              · go_wp2_with (go_at_call 45; (with_reducible refine C45.out.mono ?_); rintro e9 w10 ⟨rfl, b10⟩; replace b10 := Lib.hid b10)
                have hLf := Lib.hid (hLW.out w10 (h9.out.below b10.out) (k9.out.trans' (Kp.of b10.out : Kp (fun b => b = Rm) _ _) (fun b q _ => q)))
                have hskip := Lib.hid (hLf.out.skip hI (.inr (by rw [hr.out, of_decide_eq_true hbb.out]; exact (hM4.out.seen _).1 ⟨e, by rw [← of_decide_eq_true hbb.out, hh.out]; exact hme.out, rfl⟩)))
                exact ⟨⟨m + 1, s, E1, F, Nm, (by have := hI2.out; go_num), rfl, hskip.out⟩, by simp [intOf] <;> omega⟩
            · have t1 : ((e.cc : Int) == (q : Int)) = false := by simp; omega
              have c1 := h6.out.c1
              rw [hsq.out] at c1
              obtain ⟨gc, c8, e8, -, -, -, -⟩ := own_some h6.out.calls (by rw [hsq.out]; omega)
              injection e8 with e8a e8b e8c
              clear e8b e8c
              subst e8a
              obtain ⟨si', hsi⟩ : ∃ x, sis2[e.cc]? = some x := ⟨_, List.getElem?_eq_getElem (by rw [hsq.out]; exact hecc)⟩
              have x0 : W6.cell? ⟨gc, e.cc * 2, none⟩ = some (.slice none 0 0) := by simpa using own_at callC_len h6.out.calls hsi (j := 0) (u := .slice none 0 0) rfl
              have x1 : W6.cell? ⟨gc, e.cc * 2 + 1, none⟩ = some (.int .u32 si') := own_at callC_len h6.out.calls hsi (j := 1) (u := .int .u32 si') rfl
              clear hsi
              have z0 : (0 : Int) ≤ e.cc := by omega
              have z1 : (e.cc : Int) < (q : Int) + 1 := by omega
              have y0 := fun o => al x0 o; have y1 := fun o => al x1 o; have y2 := fun o => al p1 o; have y3 := fun o => al c1 o
              go_upto_region 20 with fail
              go_region
              go_upto_region 21 with fail
              refine wp_gen (fun W7 hW => ?_)
              have b7 : Hid (Below W6.heap.size W6 W7) := Lib.hid (by rw [hW]; exact bdN (ba _ _) 1)
              have x0' : W7.cell? ⟨W6.heap.size, 0, none⟩ = some (.slice none 0 0) := by rw [hW]; simp [go_sem]
              have x1' : W7.cell? ⟨W6.heap.size, 1, none⟩ = some (.int .u32 si') := by rw [hW]; simp [go_sem]
              clear hW y0 y1 y2 y3 x0 x1 c1
              have h7 := Lib.hid (h6.out.below b7.out)
              have k7 := Lib.hid (k6.out.trans (Kp.of b7.out))
              replace n0 := ac b7.out n0; replace p0 := ac b7.out p0
              have hPXr : Hid (W6.heap.size ≠ Rm) := Lib.hid (fun e => by have := h6.out.dylt (b := Rm) (.inl rfl); omega)
              have hPCr : Hid (W5.heap.size ≠ Rm) := Lib.hid (fun e => by have := h5.out.dylt (b := Rm) (.inl rfl); omega)
              obtain ⟨u2, r2, s2⟩ := h7.out.room 2 (by omega)
              obtain ⟨u3, r3, s3⟩ := h7.out.room 3 (by omega)
              obtain ⟨u5, r5, s5⟩ := h7.out.room 5 (by omega)
              obtain ⟨u6, r6, s6⟩ := h7.out.room 6 (by omega)
              have k67 := Lib.hid (Kp.of b7.out : Kp (fun b => b = Rm) W6 W7)
              clear b7 b6
              generalize W6.heap.size = PX at *
              generalize W5.heap.size = PC at *
              have hx1 : (⟨PX, 0, none⟩ : Addr) ≠ ⟨Rm, 2, none⟩ := fun q => by injection q with q; exact hPXr.out q
              go_upto_region 25 with fail
              refine wp_gen (fun W9 hW => ?_)
              have Z79 : ∀ (w1 : World) (j : Nat) (v : Value), Kp (fun b => b = Rm) W7 w1 → Kp (fun b => b = Rm) W7 (w1.setCell ⟨Rm, j, none⟩ v) := fun w1 j v hh => hh.set _ _ (.inl rfl)
              have k79 : Hid (Kp (fun b => b = Rm) W7 W9) := Lib.hid (by rw [hW]; exact Z79 _ _ _ (Z79 _ _ _ (Z79 _ _ _ (Z79 _ _ _ (Kp.refl _)))))
              have h9 : Hid (MS O L Rm bm (some ⟨gc, 0, none⟩) cc2 sis2 E1 (stp (fun j => (G j).key) n S m).1 Nm W9) := Lib.hid (by rw [hW]; exact MS.check (MS.check (MS.check (MS.check h7.out 2 (Nat.le_refl _) _) 3 (by decide) _) 5 (by decide) _) 6 (by decide) _)
              clear Z79
              clear hW r2 s2 r3 s3 r5 s5 r6 s6 x0' x1' hx1
              replace n0 := k79.out.cell n0 hRPR.out
              replace p0 := k79.out.cell p0 hPCr.out
              have k9 := Lib.hid (k7.out.trans k79.out)
              have hGr9 := Lib.hid (GRl.keep _ _ _ _ _ hGr6.out (Kc.of_kp (Kp.trans k67.out k79.out) (fun b _ q => by rw [q]; exact hM4.out.oR)) (fun _ _ q => q))
              have hGe9 := Lib.hid (GRl.keep _ _ _ _ _ hGe6.out (Kc.of_kp (Kp.trans k67.out k79.out) (fun b _ q => by rw [q]; exact hM4.out.oR)) (fun _ _ q => q))
              have C45 := Lib.hid (rule45_c O O r e.r (.pointer (some ⟨Rm, 2, none⟩)) W9 hGr9.out hGe9.out)
              obtain ⟨bb, hbb⟩ : ∃ y, decide (r.key = e.r.key) = y := ⟨_, rfl⟩
              rw [hbb] at C45
              replace hbb := Lib.hid hbb
              have me := mr64e
              cases bb
              · go_wp2_with (go_at_call 45; (with_reducible refine C45.out.mono ?_); rintro e9 w10 ⟨rfl, b10⟩; replace b10 := Lib.hid b10)
                exact ⟨⟨k + 1, by omega, by go_num, (fun x hx => by
                  rcases hts.out x hx with hx | rfl
                  · exact hne.out x hx
                  · exact fun q => of_decide_eq_false hbb.out q.symm), h9.out.below b10.out, (k9.out.trans' (Kp.of b10.out : Kp (fun b => b = Rm) _ _) (fun b q _ => q))⟩, by simp [intOf] <;> omega⟩
              · go_wp2_with (go_at_call 45; (with_reducible refine C45.out.mono ?_); rintro e9 w10 ⟨rfl, b10⟩; replace b10 := Lib.hid b10)
                have hLf := Lib.hid (hLW.out w10 (h9.out.below b10.out) (k9.out.trans' (Kp.of b10.out : Kp (fun b => b = Rm) _ _) (fun b q _ => q)))
                have hskip := Lib.hid (hLf.out.skip hI (.inr (by rw [hr.out, of_decide_eq_true hbb.out]; exact (hM4.out.seen _).1 ⟨e, by rw [← of_decide_eq_true hbb.out, hh.out]; exact hme.out, rfl⟩)))
                exact ⟨⟨m + 1, s, E1, F, Nm, (by have := hI2.out; go_num), rfl, hskip.out⟩, by simp [intOf] <;> omega⟩

          · obtain rfl : k = el := by omega
            have hall : Hid (∀ x ∈ (E1 h).ls, x.r.key ≠ r.key) := Lib.hid (fun x hx => hne.out x (by rw [List.take_of_length_le (by rw [hele.out]; exact Nat.le_refl _)]; exact hx))
            have e5 := k5.out.cell e0' hPErm.out
            have fe5 := k5.out.froz e0' fe0 hPErm.out
            have hL5 := Lib.hid (hLW.out W5 h5.out k5.out)
            have hPE5 : PE < W5.heap.size := block_lt_of_cell e5
            have hPR5 : PR < W5.heap.size := block_lt_of_cell n0
            have hLs : L ≤ W5.heap.size := by have := h5.out.lR; have := h5.out.dylt (b := Rm) (.inl rfl); omega
            obtain ⟨v6, hv6⟩ : ∃ y : Int, (k : Int) = y := ⟨_, rfl⟩
            have hv7 : ¬ v6 < v6 := by omega
            have hkN : k ≤ 1048576 := by omega
            go_upto_region 28 with (at_builtin; go_loud (refine app1n (w := W5) (.tmp 129) (.tmp 134) 70 74 L 2 24 #[.nilIface, .int .u32 0] #[.iface 64 (.pointer (some ⟨r.B, 0, none⟩)), .int .u32 q] _ k _ rfl rfl rfl rfl rfl Try.underlying70 info74 rfl (by omega) rE.out rfl (by simp [Value.oneCell']) hkN (by omega) hLs ?_); intro row2 WA hOA hkA hnA; obtain ⟨a2, c2, hu⟩ := own_head hOA; subst hu; have hnPE : ¬ Ob (.slice ea k ec) PE := (fun y => hPEd.out (.inr (.inr (.inr ⟨h, by rw [hEv.out]; exact y⟩)))); have eA := hkA.cell e5 hnPE; have fA := hkA.froz e5 fe5 hnPE; replace hkA := Lib.hid hkA; replace hOA := Lib.hid hOA; replace hnA := Lib.hid hnA)
            refine wp_gen (fun WB hW => ?_)
            have kAB : Hid (Kp (fun b => b = PE) WA WB) := Lib.hid (by rw [hW]; exact (Kp.refl WA).set _ _ (.inl rfl))
            have eB : WB.cell? ⟨PE, 0, none⟩ = some (.slice a2 (k + 1) c2) := by rw [hW, cs eA]
            clear hW eA fA e5 fe5
            have hrow0 : Hid (∀ b, Ob (.slice ea k ec) b → Dy Rm bm ca2 cc2 sis2 E1 b) := Lib.hid (fun b y => .inr (.inr (.inr ⟨h, by rw [hEv.out]; exact y⟩)))
            have n1' := k5.out.cell n1 hRPR.out
            have hoR : ¬ Ob (.slice ea k ec) Rm := fun y => (h5.out.nE h Rm (by rw [hEv.out]; exact y)).1 rfl
            have hoM : ¬ Ob (.slice ea k ec) bm := fun y => (h5.out.nE h bm (by rw [hEv.out]; exact y)).2 rfl
            have hog : ¬ Ob (.slice ea k ec) g := fun y => hL5.out.gd (hrow0.out g y)
            have hoP : ¬ Ob (.slice ea k ec) PR := fun y => hPRd.out (hrow0.out PR y)
            have c0 := kAB.out.cell (hkA.out.cell h5.out.c0 hoR) (fun e => hPErm.out e.symm)
            have m0 := kAB.out.cell (hkA.out.cell n0 hoP) hPRPE.out
            have m1 := kAB.out.cell (hkA.out.cell n1' hoP) hPRPE.out
            have hbmPE : Hid (bm ≠ PE) := Lib.hid (fun e => hPEd.out (.inr (.inl e.symm)))
            have hbmPR : Hid (PR ≠ bm) := Lib.hid (fun e => hPRd.out (.inr (.inl e)))
            have hbmg : Hid (g ≠ bm) := Lib.hid (fun e => hL5.out.gd (.inr (.inl e)))
            obtain ⟨D, hD1, hD2⟩ := h5.out.map
            have hDB := Lib.hid (map_kept (map_kept hD1 hkA.out hoM) kAB.out hbmPE.out)
            have rwB := Lib.hid ((hL5.out.row.kp hkA.out hog).kp kAB.out (fun e => hPEg.out e.symm))
            have y0 := fun d os => cell_regrown c0 d os
            have y1 := fun d os => cell_regrown eB d os
            refine drawn_tail 6 (by kernel_rfl) (by kernel_rfl) (by kernel_rfl) (fun Q hQ => ?_)
            simp only [List.take_succ_cons, List.take_zero, List.drop_succ_cons, List.drop_zero]
            repeat quiet_step (fail)
            refine wpQuiet_nil ?_
            intro WC hw
            have bBC : Hid (Below WB.heap.size WB WC) := Lib.hid (by
              obtain ⟨⟨d, os⟩, rfl⟩ := hw
              exact below_regrown _ d os)
            clear hw y0 y1 c0 eB
            replace m0 := ac bBC.out m0; replace m1 := ac bBC.out m1
            have hDC := Lib.hid (map_kept (T := fun _ => False) hDB.out (Kp.of bBC.out) id)
            have rwC := Lib.hid (rwB.out.below bBC.out)
            have hwf := wf32 hh0.1 hh0.2
            have hNm2 : Nm < maxLen := by unfold maxLen; omega
            go_upto_region 29 with (at_mapUpdate; go_loud (refine wpList_mapUpdate_own (H := Value) _ rfl _ _ _ 29 rfl 35 72 law35 Try.underlying29 RV bm Nm D rfl hDC.out hNm2 _ _ _ rfl rfl (keyOf_int_mk Try.underlying35 hwf) (.held (.agg #[.slice a2 (k + 1) c2])) [] rfl ?_); intro WD hDD hgD; replace hDD := Lib.hid hDD; replace hgD := Lib.hid hgD)
            have kCD : Hid (Kp (fun b => b = bm) WC WD) := Lib.hid ((Kp.grown hgD.out).wide (fun b e => by injection e with e; exact e.symm))
            clear hgD
            have kAC : Hid (Kp (fun b => b = PE) WA WC) := Lib.hid (kAB.out.trans (Kp.of bBC.out))
            have z5A := hkA.out.size; have zAC := kAC.out.size; have zCD := kCD.out.size
            have hMD : Hid (MS O L Rm bm ca2 cc2 sis2 (fun x => if x = h then ⟨a2, c2, (E1 h).ls ++ [⟨r, q⟩]⟩ else E1 x) (r.key :: (stp (fun j => (G j).key) n S m).1) (Nm + 1) WD) := Lib.hid (by
              refine h5.out.insert (w1 := WA) (w2 := WC) (T := fun b => b = PE) (D := D) (e := ⟨r, q⟩) hD1 hD2 hh0.1 hh0.2 hh.out (GRl.keep _ _ _ _ _ hG4.out (Kc.of_kp k5.out (fun b _ y => by rw [y]; exact hM4.out.oR)) (fun _ _ y => y)) (by rw [hsq.out]; exact Nat.lt_succ_self _) (by rw [hele.out]; exact hOA.out) (by rw [hEv.out]; exact hkA.out) (by rw [hele.out, hEv.out]; exact hnA.out) kAC.out (fun b _ y => ?_) (by rw [hele.out]; exact hDD.out) kCD.out (fun b y => hOn2.out b (by have := hL5.out.kpt.size; omega))
              rw [y, hele.out]
              refine ⟨hPEO.out, hPEd.out, fun z => ?_⟩
              rcases hnA.out PE z with z | z
              · exact hPEd.out (hrow0.out PE z)
              · omega)
            replace m0 := kCD.out.cell m0 hbmPR.out
            replace m1 := kCD.out.cell m1 hbmPR.out
            have rwD := Lib.hid (rwC.out.kp kCD.out hbmg.out)
            have hls := hL5.out.ls
            have hslen := stp_len (fun j => (G j).key) n S m
            obtain ⟨s1, hs1⟩ : ∃ s1, s1 + 1 = s := ⟨s - 1, by omega⟩
            have hs1n : s1 < n := by omega
            have hs1z : (s : Int) - 1 = s1 := by omega
            clear hls hslen
            obtain ⟨u0, x0, y0⟩ := rwD.out.2 (s1 * 2) (by omega)
            obtain ⟨u1, x1, y1⟩ := rwD.out.2 (s1 * 2 + 1) (by omega)
            have z0 : (0 : Int) ≤ s1 := by omega
            have z1 : (s1 : Int) < n := by omega
            replace hs1 := Lib.hid hs1
            go_upto_region 30 with fail
            try rw [hs1z]
            clear hs1z
            go_upto_region 7 with fail
            refine wp_gen (fun WE hW => ?_)
            have ZDE : ∀ (w1 : World) (j : Nat) (v : Value), Kp (fun b => b = g) WD w1 → Kp (fun b => b = g) WD (w1.setCell ⟨g, j, none⟩ v) := fun w1 j v hh => hh.set _ _ (.inl rfl)
            have kDE : Hid (Kp (fun b => b = g) WD WE) := Lib.hid (by rw [hW]; exact ZDE _ _ _ (ZDE _ _ _ (Kp.refl WD)))
            clear ZDE
            have rwE : Hid (RowRl WE g n (fun j => if j = s1 then r else F j)) := Lib.hid (by rw [hW]; exact rwD.out.set hs1n r)
            clear hW x0 y0 x1 y1 m0 m1
            have hgE : Hid (¬ Dy Rm bm ca2 cc2 sis2 (fun x => if x = h then ⟨a2, c2, (E1 h).ls ++ [⟨r, q⟩]⟩ else E1 x) g) := Lib.hid (fun y => by
              rcases y with y | y | y | ⟨x, y⟩
              · exact hL5.out.gd (.inl y)
              · exact hL5.out.gd (.inr (.inl y))
              · exact hL5.out.gd (.inr (.inr (.inl y)))
              · by_cases ex : x = h
                · simp only [if_pos ex] at y
                  have y2 : Ob (.slice a2 (k + 1) c2) g := by
                    have : ((E1 h).ls ++ [(⟨r, q⟩ : EntR)]).length = k + 1 := by rw [List.length_append, hele.out]; rfl
                    rw [ERow.v, this] at y
                    exact y
                  rcases hnA.out g y2 with z | z
                  · exact hog z
                  · omega
                · simp only [if_neg ex] at y
                  exact hL5.out.gd (.inr (.inr (.inr ⟨x, y⟩))))
            have hME := Lib.hid (hMD.out.kp kDE.out (fun b _ y => by rw [y]; exact ⟨hOg, hgE.out⟩))
            have hdatE : Hid (∀ j, j < n → GRl O WE (G j)) := Lib.hid (fun j hj => GRl.keep _ _ _ _ _ (GRl.keep _ _ _ _ _ (GRl.keep _ _ _ _ _ (GRl.keep _ _ _ _ _ (hL5.out.dat j hj) (Kc.of_kp hkA.out (fun b _ y => hM4.out.dyO (hrow0.out b y))) (fun _ _ y => y)) (Kc.of_kp kAC.out (fun b _ y => by rw [y]; exact hPEO.out)) (fun _ _ y => y)) (Kc.of_kp kCD.out (fun b _ y => by rw [y]; exact hM4.out.oM)) (fun _ _ y => y)) (Kc.of_kp kDE.out (fun b _ y => by rw [y]; exact hOg)) (fun _ _ y => y))
            have hkwE : Hid (Kp (fun b => b = g ∨ L ≤ b) w WE) := Lib.hid ((((hL5.out.kpt.trans (hkA.out.wide (fun b y => .inr (hM4.out.dyL (hrow0.out b y))))).trans (kAC.out.wide (fun b y => .inr (by rw [y]; exact hLPE.out)))).trans (kCD.out.wide (fun b y => .inr (by rw [y]; exact hM4.out.lM)))).trans (kDE.out.wide (fun b y => .inl y)))
            have hnin : Hid (r.key ∉ (stp (fun j => (G j).key) n S m).1) := Lib.hid (fun y => by
              obtain ⟨x, hx, hxe⟩ := (h5.out.seen _).2 y
              rw [hh.out] at hx
              exact hall.out x hx hxe)
            have hLf : Hid (LM O L Rm bm ca2 cc2 sis2 S N g n G w (m + 1) s1 (fun x => if x = h then ⟨a2, c2, (E1 h).ls ++ [⟨r, q⟩]⟩ else E1 x) (fun j => if j = s1 then G I else F j) (Nm + 1) WE) := Lib.hid (hL5.out.add hI hs1.out (by rw [hr.out]; exact hd.out) (by rw [hr.out]; exact hnin.out) (by rw [hr.out]; exact hME.out) (by rw [hr.out]; exact rwE.out) hdatE.out hgE.out hkwE.out)
            go_wp2
            exact ⟨⟨m + 1, s1, _, _, _, (by have := hI2.out; go_num), rfl, hLf.out⟩, by simp [intOf] <;> omega⟩
      · rw [hd] at C16
        replace hd := Lib.hid hd
        clear hrn
        go_wp2_with (go_at_call 16; (with_reducible refine C16.out.mono ?_); rintro e1 w2 ⟨rfl, b2⟩; replace b2 := Lib.hid b2)
        have bb := Lib.hid (b1.out.trans (b2.out.mono b1.out.size))
        have hskip := Lib.hid ((hL1.out.below bb.out hgo).skip hI (.inl (by rw [hr.out]; exact hd.out)))
        exact ⟨⟨m + 1, s, E1, F, Nm, (by have := hI2.out; go_num), rfl, hskip.out⟩, by simp [intOf] <;> omega⟩
    · obtain rfl : m = n := by omega
      obtain ⟨a', ha', hsl⟩ := sl24 g m c s (by have := hL1.ls; omega) hnc
      have hlen : m - s = (stp (fun j => (G j).key) m S m).2.length := by have := hL1.ls; omega
      have hP : RemP O L Rm bm sis si S N g m G w (.returned (.slice a' (m - s) (c - s))) Wo := ⟨s, c - s, a', ca2, cc2, E1, F, Nm, by rw [hlen], ha', by rw [hsi2.out]; exact hL1⟩
      replace hP := Lib.hid hP
      have hi : ((m : Int) - 1 - m) = -1 := by omega
      rw [hi]
      clear hL1 hlen ha'
      go_wp2
      try rw [Exit.noGoto_ret]
      exact bodyPost_ret (v := .slice a' (m - s) (c - s)) (by simp [results, Try.results9, go_sem]) rfl hP.out
end Go.Proofs.Ytidmdcadejfjhaa
