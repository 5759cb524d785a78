/- boxTracker.updateSide: contracts. -/
import Derived.Test.YtbakdeoeceajeaaWd
import Derived.Deep.QuietTactic
import Derived.RegionTactic
import Derived.ChangeAlike
set_option linter.unusedVariables false
set_option linter.unusedSimpArgs false
namespace Go.Proofs.Ytbakdeoeceajeaa
open Go.RowKit
def kf (c : Int) : Int := if c % 5 = 0 then 0 else if c % 5 = 1 then 30 else if c % 5 = 2 then 34 else if c % 5 = 3 then 26 else 29
set_option maxRecDepth 100000 in
set_option maxHeartbeats 1000000 in
theorem kind8_c (c : Int) (w : World) (h0 : 0 ≤ c) (h1 : c ≤ 255) : Calls Try.prog 8 #[.int .u8 c] w fun e w' => e = .returned (.int .u8 (kf c)) ∧ w = w' := by
  go_enter Try.func8, Try.ntmps8
  go_wp2
  all_goals
    go_ret
    refine ⟨?_, rfl⟩
    unfold kf
    simp_all
structure Sd where
  kd : Int
  st : Int
  ix : Int
  sg : Bool
abbrev Sd.val (s : Sd) : Value := .agg #[.pointer none, .string ⟨#[]⟩, .int .i32 0, .int .u32 0, .int .u16 0, .int .u8 s.kd, .int .u8 0, .string ⟨#[]⟩, .int .u8 s.st, .int .u32 s.ix, .bool s.sg]
def oldSd (n sg oc oi s : Int) : Sd := ⟨kf (oc / 2 ^ (8 * s).toNat % 8), (bits BinOp.and IntKind.u8 (oc / 2 ^ (8 * s).toNat % 256 / 8) 3).tmod 3, bits BinOp.and IntKind.u64 (oi / 2 ^ (16 * s).toNat) 65535 % 4294967296 % n, bits BinOp.and IntKind.u8 sg (2 ^ s.toNat % 256) != 0⟩
def OldP (S : Sd) (w : World) (e : Ending) (w' : World) : Prop := e = .returned (.tuple #[.int .u8 S.kd, .int .u8 S.st, .int .u32 S.ix, .bool S.sg]) ∧ w = w'
set_option maxRecDepth 100000 in
set_option maxHeartbeats 1000000 in
theorem old5_c (n s sg oc oi : Int) (w : World) (h0 : 1 ≤ n) (h1 : n ≤ 4096) (h2 : 0 ≤ s) (h3 : s ≤ 3) (g0 : 0 ≤ sg) (g1 : sg ≤ 255) (g2 : 0 ≤ oc) (g3 : oc ≤ 4294967295) (g4 : 0 ≤ oi) : 
    Calls Try.prog 5 #[.int .i64 n, .int .i64 s, .int .u8 sg, .int .u32 oc, .int .u64 oi] w (OldP (oldSd n sg oc oi s) w) := by
  go_enter Try.func5, Try.ntmps5
  go_wp2_with (go_at_call 8; refine (kind8_c _ _ (by omega) (by omega)).mono ?_; rintro e w' ⟨rfl, rfl⟩)
  refine bodyPost_ret (v := .tuple #[.int .u8 (kf (oc / 2 ^ (8 * s).toNat % 8)), .int .u8 ((bits BinOp.and IntKind.u8 (oc / 2 ^ (8 * s).toNat % 256 / 8) 3).tmod 3), .int .u32 (bits BinOp.and IntKind.u64 (oi / 2 ^ (16 * s).toNat) 65535 % 4294967296 % n), .bool (bits BinOp.and IntKind.u8 sg (2 ^ s.toNat % 256) != 0)]) (by simp [results, Try.results5, go_sem]) rfl ⟨rfl, rfl⟩
set_option maxRecDepth 100000 in
set_option maxHeartbeats 1000000 in
theorem new7_c (k s i : Int) (b : Bool) (w : World)  : 
    Calls Try.prog 7 #[.int .u8 k, .int .u8 s, .int .u32 i, .bool b] w fun e w' => e = .returned (Sd.val ⟨k, s, i, b⟩) ∧ Below w.heap.size w w' := by
  go_enter Try.func7, Try.ntmps7
  go_wp2_with fail
  exact bodyPost_ret (v := Sd.val ⟨k, s, i, b⟩) (by simp [results, Try.results7, go_sem]) rfl ⟨rfl, ba _ _⟩
structure SAt (w : World) (b o : Nat) (s : Sd) : Prop where
  c0 : w.cell? ⟨b, o, none⟩ = some (.pointer none)
  c1 : w.cell? ⟨b, o + 1, none⟩ = some (.string ⟨#[]⟩)
  c2 : w.cell? ⟨b, o + 2, none⟩ = some (.int .i32 0)
  c3 : w.cell? ⟨b, o + 3, none⟩ = some (.int .u32 0)
  c4 : w.cell? ⟨b, o + 4, none⟩ = some (.int .u16 0)
  c5 : w.cell? ⟨b, o + 5, none⟩ = some (.int .u8 s.kd)
  c6 : w.cell? ⟨b, o + 6, none⟩ = some (.int .u8 0)
  c7 : w.cell? ⟨b, o + 7, none⟩ = some (.string ⟨#[]⟩)
  c8 : w.cell? ⟨b, o + 8, none⟩ = some (.int .u8 s.st)
  c9 : w.cell? ⟨b, o + 9, none⟩ = some (.int .u32 s.ix)
  c10 : w.cell? ⟨b, o + 10, none⟩ = some (.bool s.sg)
theorem SAt.keep {w w' : World} {b o : Nat} {s : Sd} (h : SAt w b o s) (hk : ∀ j, j < 11 → w'.cell? ⟨b, o + j, none⟩ = w.cell? ⟨b, o + j, none⟩) : SAt w' b o s :=
  ⟨(hk 0 (by omega)).trans h.c0, (hk 1 (by omega)).trans h.c1, (hk 2 (by omega)).trans h.c2, (hk 3 (by omega)).trans h.c3, (hk 4 (by omega)).trans h.c4, (hk 5 (by omega)).trans h.c5, (hk 6 (by omega)).trans h.c6, (hk 7 (by omega)).trans h.c7, (hk 8 (by omega)).trans h.c8, (hk 9 (by omega)).trans h.c9, (hk 10 (by omega)).trans h.c10⟩
theorem SAt.after {w w' : World} {T o : Nat} {t : Sd} (h : SAt w T o t) (hb : Below w.heap.size w w') : SAt w' T o t := ⟨ac hb h.c0, ac hb h.c1, ac hb h.c2, ac hb h.c3, ac hb h.c4, ac hb h.c5, ac hb h.c6, ac hb h.c7, ac hb h.c8, ac hb h.c9, ac hb h.c10⟩
theorem SAt.only {S : Nat → Prop} {w w' : World} {T o : Nat} {t : Sd} (h : SAt w T o t) (hb : Only S w w') (hs : ¬ S T) : SAt w' T o t := ⟨hb.keep h.c0 hs, hb.keep h.c1 hs, hb.keep h.c2 hs, hb.keep h.c3 hs, hb.keep h.c4 hs, hb.keep h.c5 hs, hb.keep h.c6 hs, hb.keep h.c7 hs, hb.keep h.c8 hs, hb.keep h.c9 hs, hb.keep h.c10 hs⟩
theorem SAt.far {w : World} {T o : Nat} {t : Sd} {p : Addr} {v : Value} (h : SAt w T o t) (hp : p.block ≠ T ∨ p.off < o ∨ o + 11 ≤ p.off) : SAt (w.setCell p v) T o t :=
  h.keep fun j hj => co (by rintro rfl; simp at hp; omega)
/-- side k of the box at b is S now, the others are as they were -/
structure Put (b k : Nat) (S : Sd) (w w' : World) : Prop where
  side : SAt w' b (1 + k * 11) S
  oth : ∀ s X, s ≠ k → SAt w b (1 + s * 11) X → SAt w' b (1 + s * 11) X
  room : Room w' b 48
abbrev put11 (w : World) (b o : Nat) (S : Sd) : World := ((((((((((w.setCell ⟨b, o, none⟩ (.pointer none)).setCell ⟨b, o + 1, none⟩ (.string ⟨#[]⟩)).setCell ⟨b, o + 2, none⟩ (.int .i32 0)).setCell ⟨b, o + 3, none⟩ (.int .u32 0)).setCell ⟨b, o + 4, none⟩ (.int .u16 0)).setCell ⟨b, o + 5, none⟩ (.int .u8 S.kd)).setCell ⟨b, o + 6, none⟩ (.int .u8 0)).setCell ⟨b, o + 7, none⟩ (.string ⟨#[]⟩)).setCell ⟨b, o + 8, none⟩ (.int .u8 S.st)).setCell ⟨b, o + 9, none⟩ (.int .u32 S.ix)).setCell ⟨b, o + 10, none⟩ (.bool S.sg)
theorem put_put {w : World} {b k : Nat} (S : Sd) (h : Room w b 48) (hk : k < 4) : Put b k S w (put11 w b (1 + k * 11) S) := by
  have ne : ∀ {i j : Nat}, i ≠ j → (⟨b, i, none⟩ : Addr) ≠ ⟨b, j, none⟩ := fun h e => h (by injection e)
  obtain ⟨v0, r0, -⟩ := h (1 + k * 11 + 0) (by omega)
  obtain ⟨v1, r1, -⟩ := h (1 + k * 11 + 1) (by omega)
  obtain ⟨v2, r2, -⟩ := h (1 + k * 11 + 2) (by omega)
  obtain ⟨v3, r3, -⟩ := h (1 + k * 11 + 3) (by omega)
  obtain ⟨v4, r4, -⟩ := h (1 + k * 11 + 4) (by omega)
  obtain ⟨v5, r5, -⟩ := h (1 + k * 11 + 5) (by omega)
  obtain ⟨v6, r6, -⟩ := h (1 + k * 11 + 6) (by omega)
  obtain ⟨v7, r7, -⟩ := h (1 + k * 11 + 7) (by omega)
  obtain ⟨v8, r8, -⟩ := h (1 + k * 11 + 8) (by omega)
  obtain ⟨v9, r9, -⟩ := h (1 + k * 11 + 9) (by omega)
  obtain ⟨v10, r10, -⟩ := h (1 + k * 11 + 10) (by omega)
  refine ⟨⟨?_, ?_, ?_, ?_, ?_, ?_, ?_, ?_, ?_, ?_, ?_⟩, ?_, ?_⟩
  · (repeat rw [co (ne (by omega))]); exact cs (u := v0) (by (repeat rw [co (ne (by omega))]); exact r0)
  · (repeat rw [co (ne (by omega))]); exact cs (u := v1) (by (repeat rw [co (ne (by omega))]); exact r1)
  · (repeat rw [co (ne (by omega))]); exact cs (u := v2) (by (repeat rw [co (ne (by omega))]); exact r2)
  · (repeat rw [co (ne (by omega))]); exact cs (u := v3) (by (repeat rw [co (ne (by omega))]); exact r3)
  · (repeat rw [co (ne (by omega))]); exact cs (u := v4) (by (repeat rw [co (ne (by omega))]); exact r4)
  · (repeat rw [co (ne (by omega))]); exact cs (u := v5) (by (repeat rw [co (ne (by omega))]); exact r5)
  · (repeat rw [co (ne (by omega))]); exact cs (u := v6) (by (repeat rw [co (ne (by omega))]); exact r6)
  · (repeat rw [co (ne (by omega))]); exact cs (u := v7) (by (repeat rw [co (ne (by omega))]); exact r7)
  · (repeat rw [co (ne (by omega))]); exact cs (u := v8) (by (repeat rw [co (ne (by omega))]); exact r8)
  · (repeat rw [co (ne (by omega))]); exact cs (u := v9) (by (repeat rw [co (ne (by omega))]); exact r9)
  · (repeat rw [co (ne (by omega))]); exact cs (u := v10) (by (repeat rw [co (ne (by omega))]); exact r10)
  · intro s X hs hX
    iterate 11 (refine SAt.far ?_ (.inr (by dsimp only; omega)))
    exact hX
  · iterate 11 (refine Room.set ?_ _ _)
    exact h
theorem only_put {w : World} {b o : Nat} (S : Sd) {T : Nat → Prop} (hT : T b) : Only T w (put11 w b o S) := by
  iterate 11 (refine Only.set ?_ _ _ hT)
  exact Only.refl w
def PutP (T : Nat → Prop) (b k : Nat) (S : Sd) (w : World) (e : Ending) (w' : World) : Prop := e = .returned (.tuple #[]) ∧ Put b k S w w' ∧ Only T w w'
theorem Put.later {b k : Nat} {S : Sd} {w w1 w' : World} (h : Put b k S w w1) (hb : Below w1.heap.size w1 w') : Put b k S w w' := ⟨h.side.after hb, fun s X hs hX => (h.oth s X hs hX).after hb, h.room.after hb⟩
theorem Put.old {b k : Nat} {S : Sd} {w w1 w' : World} (hb : Below w.heap.size w w1) (h : Put b k S w1 w') : Put b k S w w' := ⟨h.side, fun s X hs hX => h.oth s X hs (hX.after hb), h.room⟩
set_option maxRecDepth 100000 in
set_option maxHeartbeats 1000000 in
theorem box4_c (w : World)  : 
    Calls Try.prog 4 #[.int .u16 189, .string ⟨#[109, 97, 114, 103, 105, 110]⟩, .bool false, .bool false] w fun e w' => e = .returned (.pointer (some ⟨w.heap.size, 0, none⟩)) ∧ Room w' w.heap.size 48 ∧ Below w.heap.size w w' := by
  go_enter Try.func4, Try.ntmps4
  go_wp2_with fail
  go_ret
  refine ⟨rfl, ?_, ba _ _⟩
  exact Room.new w _ 53
set_option maxRecDepth 100000 in
set_option maxHeartbeats 1000000 in
theorem set6_c (b k : Nat) (S : Sd) (w : World) (h : Room w b 48) (hk : k < 4) : 
    Calls Try.prog 6 #[.pointer (some ⟨b, 0, none⟩), .int .i64 k, S.val] w (PutP (fun x => x = b) b k S w) := by
  have H := Lib.hid h
  obtain ⟨v0, r0, f0⟩ := h (1 + k * 11 + 0) (by omega)
  obtain ⟨v1, r1, f1⟩ := h (1 + k * 11 + 1) (by omega)
  obtain ⟨v2, r2, f2⟩ := h (1 + k * 11 + 2) (by omega)
  obtain ⟨v3, r3, f3⟩ := h (1 + k * 11 + 3) (by omega)
  obtain ⟨v4, r4, f4⟩ := h (1 + k * 11 + 4) (by omega)
  obtain ⟨v5, r5, f5⟩ := h (1 + k * 11 + 5) (by omega)
  obtain ⟨v6, r6, f6⟩ := h (1 + k * 11 + 6) (by omega)
  obtain ⟨v7, r7, f7⟩ := h (1 + k * 11 + 7) (by omega)
  obtain ⟨v8, r8, f8⟩ := h (1 + k * 11 + 8) (by omega)
  obtain ⟨v9, r9, f9⟩ := h (1 + k * 11 + 9) (by omega)
  obtain ⟨v10, r10, f10⟩ := h (1 + k * 11 + 10) (by omega)
  have q0 := al r0
  have q1 := al r1
  have q2 := al r2
  have q3 := al r3
  have q4 := al r4
  have q5 := al r5
  have q6 := al r6
  have q7 := al r7
  have q8 := al r8
  have q9 := al r9
  have q10 := al r10
  have p0 := fun o => af (ba w o) r0 f0
  have p1 := fun o => af (ba w o) r1 f1
  have p2 := fun o => af (ba w o) r2 f2
  have p3 := fun o => af (ba w o) r3 f3
  have p4 := fun o => af (ba w o) r4 f4
  have p5 := fun o => af (ba w o) r5 f5
  have p6 := fun o => af (ba w o) r6 f6
  have p7 := fun o => af (ba w o) r7 f7
  have p8 := fun o => af (ba w o) r8 f8
  have p9 := fun o => af (ba w o) r9 f9
  have p10 := fun o => af (ba w o) r10 f10
  simp only [Nat.add_zero] at q0 r0 f0 p0
  have k0 : (0 : Int) ≤ k := by omega
  have k1 : (k : Int) < 4 := by omega
  clear h
  go_enter Try.func6, Try.ntmps6
  go_wp2
  go_region
  go_wp2
  go_end0
  have hb := ba w (.cells #[.pointer none, .string ⟨#[]⟩, .int .i32 0, .int .u32 0, .int .u16 0, .int .u8 S.kd, .int .u8 0, .string ⟨#[]⟩, .int .u8 S.st, .int .u32 S.ix, .bool S.sg] 42)
  exact ⟨rfl, ((put_put S (H.out.after hb) hk).old hb).later (Below.refl _ _).drew, ((Only.of hb).trans (only_put (T := fun x => x = b) S rfl)).trans (Only.of (Below.refl _ _).drew)⟩
theorem fin_put {T : Nat → Prop} {b k : Nat} {S : Sd} {w W : World} (hW : Only T w W) (hT : T b) (hr : Room W b 48) (hs : ∀ s X, SAt w b (1 + s * 11) X → SAt W b (1 + s * 11) X) (hk : k < 4) : PutP T b k S w (.returned (.tuple #[])) (put11 W b (1 + k * 11) S).drew := by
  have h := (put_put S hr hk).later (Below.refl _ _).drew
  exact ⟨rfl, ⟨h.side, fun s X hn hX => h.oth s X hn (hs s X hX), h.room⟩, (hW.trans (only_put S hT)).trans (Only.of (Below.refl _ _).drew)⟩
theorem fin_a {w : World} {b k R : Nat} {S : Sd} {o1 o2 : Obj} (h : Room w b 48) (hk : k < 4) : PutP (fun x => x = b ∨ x = R) b k S w (.returned (.tuple #[])) (put11 ((w.alloc o1).alloc o2) b (1 + k * 11) S).drew :=
  have hb : Below w.heap.size w ((w.alloc o1).alloc o2) := (ba w o1).trans ((ba _ o2).mono (by simp))
  fin_put (Only.of hb) (.inl rfl) (h.after hb) (fun s X hX => hX.after hb) hk
theorem fin_y {w : World} {b k R i j : Nat} {S : Sd} {o1 o2 : Obj} {x y : Value} (h : Room w b 48) (hk : k < 4) (hbR : b ≠ R) : PutP (fun x => x = b ∨ x = R) b k S w (.returned (.tuple #[])) (put11 ((((w.setCell ⟨R, i, none⟩ x).setCell ⟨R, j, none⟩ y).alloc o1).alloc o2) b (1 + k * 11) S).drew :=
  have ho1 : Only (fun x => x = R) w ((w.setCell ⟨R, i, none⟩ x).setCell ⟨R, j, none⟩ y) := ((Only.refl (S := fun x => x = R) w).set ⟨R, i, none⟩ x rfl).set ⟨R, j, none⟩ y rfl
  have ho : Only (fun x => x = R) w ((((w.setCell ⟨R, i, none⟩ x).setCell ⟨R, j, none⟩ y).alloc o1).alloc o2) := (ho1.trans (Only.of (ba _ o1))).trans (Only.of (ba _ o2))
  fin_put (ho.wide fun _ h => .inr h) (.inl rfl) (ho.room h hbR) (fun s X hX => hX.only ho hbR) hk
theorem ss {w : World} {b R a i j : Nat} {v x y : Value} (h : w.cell? ⟨b, a, none⟩ = some v) (hbR : b ≠ R) : ((w.setCell ⟨R, i, none⟩ x).setCell ⟨R, j, none⟩ y).cell? ⟨b, a, none⟩ = some v := by
  rw [co (fun e => hbR (by injection e with e; exact e.symm)), co (fun e => hbR (by injection e with e; exact e.symm))]; exact h
theorem sz {w : World} {b R a i j : Nat} {x y : Value} (h : w.frozen? ⟨b, a, none⟩ = false) : ((w.setCell ⟨R, i, none⟩ x).setCell ⟨R, j, none⟩ y).frozen? ⟨b, a, none⟩ = false := by
  rw [fz, fz]; exact h
set_option maxRecDepth 100000 in
set_option maxHeartbeats 2000000 in
theorem upd_a (b k R n i : Nat) (kd st : Int) (sg : Bool) (kd' st' ix' : Int) (sg' : Bool) (w : World) (h : Room w b 48) (hr : Room w R (n * 2)) (hk : k < 4) (ho : SAt w b (1 + k * 11) ⟨kd, st, i, sg⟩) (hi : i < n) (hn : n ≤ 4096) (hbR : b ≠ R) (e1 : (kd != 0) = false) :
    Calls Try.prog 13 #[.pointer (some ⟨b, 0, none⟩), .slice (some ⟨R, 0, none⟩) n n, .int .i64 k, (⟨kd', st', ix', sg'⟩ : Sd).val] w (PutP (fun x => x = b ∨ x = R) b k ⟨kd', st', ix', sg'⟩ w) := by
  have H := Lib.hid h
  have HB := Lib.hid hbR
  obtain ⟨r0, r1, r2, r3, r4, r5, r6, r7, r8, r9, r10⟩ := ho
  obtain ⟨-, -, f0⟩ := h (1 + k * 11) (by omega)
  obtain ⟨-, -, f1⟩ := h (1 + k * 11 + 1) (by omega)
  obtain ⟨-, -, f2⟩ := h (1 + k * 11 + 2) (by omega)
  obtain ⟨-, -, f3⟩ := h (1 + k * 11 + 3) (by omega)
  obtain ⟨-, -, f4⟩ := h (1 + k * 11 + 4) (by omega)
  obtain ⟨-, -, f5⟩ := h (1 + k * 11 + 5) (by omega)
  obtain ⟨-, -, f6⟩ := h (1 + k * 11 + 6) (by omega)
  obtain ⟨-, -, f7⟩ := h (1 + k * 11 + 7) (by omega)
  obtain ⟨-, -, f8⟩ := h (1 + k * 11 + 8) (by omega)
  obtain ⟨-, -, f9⟩ := h (1 + k * 11 + 9) (by omega)
  obtain ⟨-, -, f10⟩ := h (1 + k * 11 + 10) (by omega)
  obtain ⟨x0, y0, z0⟩ := hr (i * 2) (by omega)
  obtain ⟨x1, y1, z1⟩ := hr (i * 2 + 1) (by omega)
  have q0 := fun o1 => al r0 o1
  have qq0 := fun o1 o2 => al (al r0 o1) o2
  have p0 := fun o1 o2 => af (ba _ o2) (al r0 o1) (af (ba w o1) r0 f0)
  have q1 := fun o1 => al r1 o1
  have qq1 := fun o1 o2 => al (al r1 o1) o2
  have p1 := fun o1 o2 => af (ba _ o2) (al r1 o1) (af (ba w o1) r1 f1)
  have q2 := fun o1 => al r2 o1
  have qq2 := fun o1 o2 => al (al r2 o1) o2
  have p2 := fun o1 o2 => af (ba _ o2) (al r2 o1) (af (ba w o1) r2 f2)
  have q3 := fun o1 => al r3 o1
  have qq3 := fun o1 o2 => al (al r3 o1) o2
  have p3 := fun o1 o2 => af (ba _ o2) (al r3 o1) (af (ba w o1) r3 f3)
  have q4 := fun o1 => al r4 o1
  have qq4 := fun o1 o2 => al (al r4 o1) o2
  have p4 := fun o1 o2 => af (ba _ o2) (al r4 o1) (af (ba w o1) r4 f4)
  have q5 := fun o1 => al r5 o1
  have qq5 := fun o1 o2 => al (al r5 o1) o2
  have p5 := fun o1 o2 => af (ba _ o2) (al r5 o1) (af (ba w o1) r5 f5)
  have q6 := fun o1 => al r6 o1
  have qq6 := fun o1 o2 => al (al r6 o1) o2
  have p6 := fun o1 o2 => af (ba _ o2) (al r6 o1) (af (ba w o1) r6 f6)
  have q7 := fun o1 => al r7 o1
  have qq7 := fun o1 o2 => al (al r7 o1) o2
  have p7 := fun o1 o2 => af (ba _ o2) (al r7 o1) (af (ba w o1) r7 f7)
  have q8 := fun o1 => al r8 o1
  have qq8 := fun o1 o2 => al (al r8 o1) o2
  have p8 := fun o1 o2 => af (ba _ o2) (al r8 o1) (af (ba w o1) r8 f8)
  have q9 := fun o1 => al r9 o1
  have qq9 := fun o1 o2 => al (al r9 o1) o2
  have p9 := fun o1 o2 => af (ba _ o2) (al r9 o1) (af (ba w o1) r9 f9)
  have q10 := fun o1 => al r10 o1
  have qq10 := fun o1 o2 => al (al r10 o1) o2
  have p10 := fun o1 o2 => af (ba _ o2) (al r10 o1) (af (ba w o1) r10 f10)
  have t0 := fun o1 o2 => al (al y0 o1) o2
  have u0 := fun o1 o2 => af (ba _ o2) (al y0 o1) (af (ba w o1) y0 z0)
  have t1 := fun o1 o2 => al (al y1 o1) o2
  have u1 := fun o1 o2 => af (ba _ o2) (al y1 o1) (af (ba w o1) y1 z1)
  have k0 : (0 : Int) ≤ k := by omega
  have k1 : (k : Int) < 4 := by omega
  have i0 : (0 : Int) ≤ i := by omega
  have i1 : (i : Int) < n := by omega
  have hRb : ¬ R = b := fun e => hbR e.symm
  have hRl : R < w.heap.size := block_lt_of_cell y0
  have hRw : ¬ R = w.heap.size := by omega
  have hRw' : ¬ w.heap.size = R := by omega
  have hRv : ¬ R = w.heap.size + 1 := by omega
  have hRv' : ¬ w.heap.size + 1 = R := by omega
  clear h hr
  go_enter Try.func13, Try.ntmps13
  go_wp2
  go_region
  go_wp2
  go_end0
  exact fin_a H.out hk
set_option maxRecDepth 100000 in
set_option maxHeartbeats 2000000 in
theorem upd_b (b k R n i : Nat) (kd st : Int) (kd' st' ix' : Int) (w : World) (h : Room w b 48) (hr : Room w R (n * 2)) (hk : k < 4) (ho : SAt w b (1 + k * 11) ⟨kd, st, i, false⟩) (hi : i < n) (hn : n ≤ 4096) (hbR : b ≠ R) (e1 : (kd != 0) = true) :
    Calls Try.prog 13 #[.pointer (some ⟨b, 0, none⟩), .slice (some ⟨R, 0, none⟩) n n, .int .i64 k, (⟨kd', st', ix', true⟩ : Sd).val] w (PutP (fun x => x = b ∨ x = R) b k ⟨kd', st', ix', true⟩ w) := by
  have H := Lib.hid h
  have HB := Lib.hid hbR
  obtain ⟨r0, r1, r2, r3, r4, r5, r6, r7, r8, r9, r10⟩ := ho
  obtain ⟨-, -, f0⟩ := h (1 + k * 11) (by omega)
  obtain ⟨-, -, f1⟩ := h (1 + k * 11 + 1) (by omega)
  obtain ⟨-, -, f2⟩ := h (1 + k * 11 + 2) (by omega)
  obtain ⟨-, -, f3⟩ := h (1 + k * 11 + 3) (by omega)
  obtain ⟨-, -, f4⟩ := h (1 + k * 11 + 4) (by omega)
  obtain ⟨-, -, f5⟩ := h (1 + k * 11 + 5) (by omega)
  obtain ⟨-, -, f6⟩ := h (1 + k * 11 + 6) (by omega)
  obtain ⟨-, -, f7⟩ := h (1 + k * 11 + 7) (by omega)
  obtain ⟨-, -, f8⟩ := h (1 + k * 11 + 8) (by omega)
  obtain ⟨-, -, f9⟩ := h (1 + k * 11 + 9) (by omega)
  obtain ⟨-, -, f10⟩ := h (1 + k * 11 + 10) (by omega)
  obtain ⟨x0, y0, z0⟩ := hr (i * 2) (by omega)
  obtain ⟨x1, y1, z1⟩ := hr (i * 2 + 1) (by omega)
  have q0 := fun o1 => al r0 o1
  have qq0 := fun o1 o2 => al (al r0 o1) o2
  have p0 := fun o1 o2 => af (ba _ o2) (al r0 o1) (af (ba w o1) r0 f0)
  have q1 := fun o1 => al r1 o1
  have qq1 := fun o1 o2 => al (al r1 o1) o2
  have p1 := fun o1 o2 => af (ba _ o2) (al r1 o1) (af (ba w o1) r1 f1)
  have q2 := fun o1 => al r2 o1
  have qq2 := fun o1 o2 => al (al r2 o1) o2
  have p2 := fun o1 o2 => af (ba _ o2) (al r2 o1) (af (ba w o1) r2 f2)
  have q3 := fun o1 => al r3 o1
  have qq3 := fun o1 o2 => al (al r3 o1) o2
  have p3 := fun o1 o2 => af (ba _ o2) (al r3 o1) (af (ba w o1) r3 f3)
  have q4 := fun o1 => al r4 o1
  have qq4 := fun o1 o2 => al (al r4 o1) o2
  have p4 := fun o1 o2 => af (ba _ o2) (al r4 o1) (af (ba w o1) r4 f4)
  have q5 := fun o1 => al r5 o1
  have qq5 := fun o1 o2 => al (al r5 o1) o2
  have p5 := fun o1 o2 => af (ba _ o2) (al r5 o1) (af (ba w o1) r5 f5)
  have q6 := fun o1 => al r6 o1
  have qq6 := fun o1 o2 => al (al r6 o1) o2
  have p6 := fun o1 o2 => af (ba _ o2) (al r6 o1) (af (ba w o1) r6 f6)
  have q7 := fun o1 => al r7 o1
  have qq7 := fun o1 o2 => al (al r7 o1) o2
  have p7 := fun o1 o2 => af (ba _ o2) (al r7 o1) (af (ba w o1) r7 f7)
  have q8 := fun o1 => al r8 o1
  have qq8 := fun o1 o2 => al (al r8 o1) o2
  have p8 := fun o1 o2 => af (ba _ o2) (al r8 o1) (af (ba w o1) r8 f8)
  have q9 := fun o1 => al r9 o1
  have qq9 := fun o1 o2 => al (al r9 o1) o2
  have p9 := fun o1 o2 => af (ba _ o2) (al r9 o1) (af (ba w o1) r9 f9)
  have q10 := fun o1 => al r10 o1
  have qq10 := fun o1 o2 => al (al r10 o1) o2
  have p10 := fun o1 o2 => af (ba _ o2) (al r10 o1) (af (ba w o1) r10 f10)
  have t0 := fun o1 o2 => al (al y0 o1) o2
  have u0 := fun o1 o2 => af (ba _ o2) (al y0 o1) (af (ba w o1) y0 z0)
  have t1 := fun o1 o2 => al (al y1 o1) o2
  have u1 := fun o1 o2 => af (ba _ o2) (al y1 o1) (af (ba w o1) y1 z1)
  have k0 : (0 : Int) ≤ k := by omega
  have k1 : (k : Int) < 4 := by omega
  have i0 : (0 : Int) ≤ i := by omega
  have i1 : (i : Int) < n := by omega
  have hRb : ¬ R = b := fun e => hbR e.symm
  have hRl : R < w.heap.size := block_lt_of_cell y0
  have hRw : ¬ R = w.heap.size := by omega
  have hRw' : ¬ w.heap.size = R := by omega
  have hRv : ¬ R = w.heap.size + 1 := by omega
  have hRv' : ¬ w.heap.size + 1 = R := by omega
  clear h hr
  go_enter Try.func13, Try.ntmps13
  go_wp2
  go_region
  go_wp2
  go_end0
  exact fin_a H.out hk
set_option maxRecDepth 100000 in
set_option maxHeartbeats 2000000 in
theorem upd_c1 (b k R n i : Nat) (kd st : Int) (sg : Bool) (kd' st' ix' : Int) (w : World) (h : Room w b 48) (hr : Room w R (n * 2)) (hk : k < 4) (ho : SAt w b (1 + k * 11) ⟨kd, st, i, sg⟩) (hi : i < n) (hn : n ≤ 4096) (hbR : b ≠ R) (e1 : (kd != 0) = true) (e3 : (st == 0) = false) :
    Calls Try.prog 13 #[.pointer (some ⟨b, 0, none⟩), .slice (some ⟨R, 0, none⟩) n n, .int .i64 k, (⟨kd', st', ix', false⟩ : Sd).val] w (PutP (fun x => x = b ∨ x = R) b k ⟨kd', st', ix', false⟩ w) := by
  have H := Lib.hid h
  have HB := Lib.hid hbR
  obtain ⟨r0, r1, r2, r3, r4, r5, r6, r7, r8, r9, r10⟩ := ho
  obtain ⟨-, -, f0⟩ := h (1 + k * 11) (by omega)
  obtain ⟨-, -, f1⟩ := h (1 + k * 11 + 1) (by omega)
  obtain ⟨-, -, f2⟩ := h (1 + k * 11 + 2) (by omega)
  obtain ⟨-, -, f3⟩ := h (1 + k * 11 + 3) (by omega)
  obtain ⟨-, -, f4⟩ := h (1 + k * 11 + 4) (by omega)
  obtain ⟨-, -, f5⟩ := h (1 + k * 11 + 5) (by omega)
  obtain ⟨-, -, f6⟩ := h (1 + k * 11 + 6) (by omega)
  obtain ⟨-, -, f7⟩ := h (1 + k * 11 + 7) (by omega)
  obtain ⟨-, -, f8⟩ := h (1 + k * 11 + 8) (by omega)
  obtain ⟨-, -, f9⟩ := h (1 + k * 11 + 9) (by omega)
  obtain ⟨-, -, f10⟩ := h (1 + k * 11 + 10) (by omega)
  obtain ⟨x0, y0, z0⟩ := hr (i * 2) (by omega)
  obtain ⟨x1, y1, z1⟩ := hr (i * 2 + 1) (by omega)
  have q0 := fun o1 => al r0 o1
  have qq0 := fun o1 o2 => al (al r0 o1) o2
  have p0 := fun o1 o2 => af (ba _ o2) (al r0 o1) (af (ba w o1) r0 f0)
  have q1 := fun o1 => al r1 o1
  have qq1 := fun o1 o2 => al (al r1 o1) o2
  have p1 := fun o1 o2 => af (ba _ o2) (al r1 o1) (af (ba w o1) r1 f1)
  have q2 := fun o1 => al r2 o1
  have qq2 := fun o1 o2 => al (al r2 o1) o2
  have p2 := fun o1 o2 => af (ba _ o2) (al r2 o1) (af (ba w o1) r2 f2)
  have q3 := fun o1 => al r3 o1
  have qq3 := fun o1 o2 => al (al r3 o1) o2
  have p3 := fun o1 o2 => af (ba _ o2) (al r3 o1) (af (ba w o1) r3 f3)
  have q4 := fun o1 => al r4 o1
  have qq4 := fun o1 o2 => al (al r4 o1) o2
  have p4 := fun o1 o2 => af (ba _ o2) (al r4 o1) (af (ba w o1) r4 f4)
  have q5 := fun o1 => al r5 o1
  have qq5 := fun o1 o2 => al (al r5 o1) o2
  have p5 := fun o1 o2 => af (ba _ o2) (al r5 o1) (af (ba w o1) r5 f5)
  have q6 := fun o1 => al r6 o1
  have qq6 := fun o1 o2 => al (al r6 o1) o2
  have p6 := fun o1 o2 => af (ba _ o2) (al r6 o1) (af (ba w o1) r6 f6)
  have q7 := fun o1 => al r7 o1
  have qq7 := fun o1 o2 => al (al r7 o1) o2
  have p7 := fun o1 o2 => af (ba _ o2) (al r7 o1) (af (ba w o1) r7 f7)
  have q8 := fun o1 => al r8 o1
  have qq8 := fun o1 o2 => al (al r8 o1) o2
  have p8 := fun o1 o2 => af (ba _ o2) (al r8 o1) (af (ba w o1) r8 f8)
  have q9 := fun o1 => al r9 o1
  have qq9 := fun o1 o2 => al (al r9 o1) o2
  have p9 := fun o1 o2 => af (ba _ o2) (al r9 o1) (af (ba w o1) r9 f9)
  have q10 := fun o1 => al r10 o1
  have qq10 := fun o1 o2 => al (al r10 o1) o2
  have p10 := fun o1 o2 => af (ba _ o2) (al r10 o1) (af (ba w o1) r10 f10)
  have t0 := fun o1 o2 => al (al y0 o1) o2
  have u0 := fun o1 o2 => af (ba _ o2) (al y0 o1) (af (ba w o1) y0 z0)
  have t1 := fun o1 o2 => al (al y1 o1) o2
  have u1 := fun o1 o2 => af (ba _ o2) (al y1 o1) (af (ba w o1) y1 z1)
  have k0 : (0 : Int) ≤ k := by omega
  have k1 : (k : Int) < 4 := by omega
  have i0 : (0 : Int) ≤ i := by omega
  have i1 : (i : Int) < n := by omega
  have hRb : ¬ R = b := fun e => hbR e.symm
  have hRl : R < w.heap.size := block_lt_of_cell y0
  have hRw : ¬ R = w.heap.size := by omega
  have hRw' : ¬ w.heap.size = R := by omega
  have hRv : ¬ R = w.heap.size + 1 := by omega
  have hRv' : ¬ w.heap.size + 1 = R := by omega
  clear h hr
  go_enter Try.func13, Try.ntmps13
  go_wp2
  go_region
  go_wp2
  go_end0
  exact fin_a H.out hk
set_option maxRecDepth 100000 in
set_option maxHeartbeats 2000000 in
theorem upd_c2 (b k R n i : Nat) (kd st : Int) (sg : Bool) (kd' st' ix' : Int) (w : World) (h : Room w b 48) (hr : Room w R (n * 2)) (hk : k < 4) (ho : SAt w b (1 + k * 11) ⟨kd, st, i, sg⟩) (hi : i < n) (hn : n ≤ 4096) (hbR : b ≠ R) (e1 : (kd != 0) = true) (e3 : (st == 0) = true) (e4 : (st' == 0) = false) :
    Calls Try.prog 13 #[.pointer (some ⟨b, 0, none⟩), .slice (some ⟨R, 0, none⟩) n n, .int .i64 k, (⟨kd', st', ix', false⟩ : Sd).val] w (PutP (fun x => x = b ∨ x = R) b k ⟨kd', st', ix', false⟩ w) := by
  have H := Lib.hid h
  have HB := Lib.hid hbR
  obtain ⟨r0, r1, r2, r3, r4, r5, r6, r7, r8, r9, r10⟩ := ho
  obtain ⟨-, -, f0⟩ := h (1 + k * 11) (by omega)
  obtain ⟨-, -, f1⟩ := h (1 + k * 11 + 1) (by omega)
  obtain ⟨-, -, f2⟩ := h (1 + k * 11 + 2) (by omega)
  obtain ⟨-, -, f3⟩ := h (1 + k * 11 + 3) (by omega)
  obtain ⟨-, -, f4⟩ := h (1 + k * 11 + 4) (by omega)
  obtain ⟨-, -, f5⟩ := h (1 + k * 11 + 5) (by omega)
  obtain ⟨-, -, f6⟩ := h (1 + k * 11 + 6) (by omega)
  obtain ⟨-, -, f7⟩ := h (1 + k * 11 + 7) (by omega)
  obtain ⟨-, -, f8⟩ := h (1 + k * 11 + 8) (by omega)
  obtain ⟨-, -, f9⟩ := h (1 + k * 11 + 9) (by omega)
  obtain ⟨-, -, f10⟩ := h (1 + k * 11 + 10) (by omega)
  obtain ⟨x0, y0, z0⟩ := hr (i * 2) (by omega)
  obtain ⟨x1, y1, z1⟩ := hr (i * 2 + 1) (by omega)
  have q0 := fun o1 => al r0 o1
  have qq0 := fun o1 o2 => al (al r0 o1) o2
  have p0 := fun o1 o2 => af (ba _ o2) (al r0 o1) (af (ba w o1) r0 f0)
  have q1 := fun o1 => al r1 o1
  have qq1 := fun o1 o2 => al (al r1 o1) o2
  have p1 := fun o1 o2 => af (ba _ o2) (al r1 o1) (af (ba w o1) r1 f1)
  have q2 := fun o1 => al r2 o1
  have qq2 := fun o1 o2 => al (al r2 o1) o2
  have p2 := fun o1 o2 => af (ba _ o2) (al r2 o1) (af (ba w o1) r2 f2)
  have q3 := fun o1 => al r3 o1
  have qq3 := fun o1 o2 => al (al r3 o1) o2
  have p3 := fun o1 o2 => af (ba _ o2) (al r3 o1) (af (ba w o1) r3 f3)
  have q4 := fun o1 => al r4 o1
  have qq4 := fun o1 o2 => al (al r4 o1) o2
  have p4 := fun o1 o2 => af (ba _ o2) (al r4 o1) (af (ba w o1) r4 f4)
  have q5 := fun o1 => al r5 o1
  have qq5 := fun o1 o2 => al (al r5 o1) o2
  have p5 := fun o1 o2 => af (ba _ o2) (al r5 o1) (af (ba w o1) r5 f5)
  have q6 := fun o1 => al r6 o1
  have qq6 := fun o1 o2 => al (al r6 o1) o2
  have p6 := fun o1 o2 => af (ba _ o2) (al r6 o1) (af (ba w o1) r6 f6)
  have q7 := fun o1 => al r7 o1
  have qq7 := fun o1 o2 => al (al r7 o1) o2
  have p7 := fun o1 o2 => af (ba _ o2) (al r7 o1) (af (ba w o1) r7 f7)
  have q8 := fun o1 => al r8 o1
  have qq8 := fun o1 o2 => al (al r8 o1) o2
  have p8 := fun o1 o2 => af (ba _ o2) (al r8 o1) (af (ba w o1) r8 f8)
  have q9 := fun o1 => al r9 o1
  have qq9 := fun o1 o2 => al (al r9 o1) o2
  have p9 := fun o1 o2 => af (ba _ o2) (al r9 o1) (af (ba w o1) r9 f9)
  have q10 := fun o1 => al r10 o1
  have qq10 := fun o1 o2 => al (al r10 o1) o2
  have p10 := fun o1 o2 => af (ba _ o2) (al r10 o1) (af (ba w o1) r10 f10)
  have t0 := fun o1 o2 => al (al y0 o1) o2
  have u0 := fun o1 o2 => af (ba _ o2) (al y0 o1) (af (ba w o1) y0 z0)
  have t1 := fun o1 o2 => al (al y1 o1) o2
  have u1 := fun o1 o2 => af (ba _ o2) (al y1 o1) (af (ba w o1) y1 z1)
  have k0 : (0 : Int) ≤ k := by omega
  have k1 : (k : Int) < 4 := by omega
  have i0 : (0 : Int) ≤ i := by omega
  have i1 : (i : Int) < n := by omega
  have hRb : ¬ R = b := fun e => hbR e.symm
  have hRl : R < w.heap.size := block_lt_of_cell y0
  have hRw : ¬ R = w.heap.size := by omega
  have hRw' : ¬ w.heap.size = R := by omega
  have hRv : ¬ R = w.heap.size + 1 := by omega
  have hRv' : ¬ w.heap.size + 1 = R := by omega
  clear h hr
  go_enter Try.func13, Try.ntmps13
  go_wp2
  go_region
  go_wp2
  go_end0
  exact fin_a H.out hk
set_option maxRecDepth 100000 in
set_option maxHeartbeats 2000000 in
theorem upd_c3 (b k R n i : Nat) (kd st : Int) (sg : Bool) (kd' st' ix' : Int) (w : World) (h : Room w b 48) (hr : Room w R (n * 2)) (hk : k < 4) (ho : SAt w b (1 + k * 11) ⟨kd, st, i, sg⟩) (hi : i < n) (hn : n ≤ 4096) (hbR : b ≠ R) (e1 : (kd != 0) = true) (e3 : (st == 0) = true) (e4 : (st' == 0) = true) :
    Calls Try.prog 13 #[.pointer (some ⟨b, 0, none⟩), .slice (some ⟨R, 0, none⟩) n n, .int .i64 k, (⟨kd', st', ix', false⟩ : Sd).val] w (PutP (fun x => x = b ∨ x = R) b k ⟨kd', st', ix', false⟩ w) := by
  have H := Lib.hid h
  have HB := Lib.hid hbR
  obtain ⟨r0, r1, r2, r3, r4, r5, r6, r7, r8, r9, r10⟩ := ho
  obtain ⟨-, -, f0⟩ := h (1 + k * 11) (by omega)
  obtain ⟨-, -, f1⟩ := h (1 + k * 11 + 1) (by omega)
  obtain ⟨-, -, f2⟩ := h (1 + k * 11 + 2) (by omega)
  obtain ⟨-, -, f3⟩ := h (1 + k * 11 + 3) (by omega)
  obtain ⟨-, -, f4⟩ := h (1 + k * 11 + 4) (by omega)
  obtain ⟨-, -, f5⟩ := h (1 + k * 11 + 5) (by omega)
  obtain ⟨-, -, f6⟩ := h (1 + k * 11 + 6) (by omega)
  obtain ⟨-, -, f7⟩ := h (1 + k * 11 + 7) (by omega)
  obtain ⟨-, -, f8⟩ := h (1 + k * 11 + 8) (by omega)
  obtain ⟨-, -, f9⟩ := h (1 + k * 11 + 9) (by omega)
  obtain ⟨-, -, f10⟩ := h (1 + k * 11 + 10) (by omega)
  obtain ⟨x0, y0, z0⟩ := hr (i * 2) (by omega)
  obtain ⟨x1, y1, z1⟩ := hr (i * 2 + 1) (by omega)
  have q0 := fun o1 => al r0 o1
  have qq0 := fun o1 o2 => al (al r0 o1) o2
  have p0 := fun o1 o2 => af (ba _ o2) (al r0 o1) (af (ba w o1) r0 f0)
  have q1 := fun o1 => al r1 o1
  have qq1 := fun o1 o2 => al (al r1 o1) o2
  have p1 := fun o1 o2 => af (ba _ o2) (al r1 o1) (af (ba w o1) r1 f1)
  have q2 := fun o1 => al r2 o1
  have qq2 := fun o1 o2 => al (al r2 o1) o2
  have p2 := fun o1 o2 => af (ba _ o2) (al r2 o1) (af (ba w o1) r2 f2)
  have q3 := fun o1 => al r3 o1
  have qq3 := fun o1 o2 => al (al r3 o1) o2
  have p3 := fun o1 o2 => af (ba _ o2) (al r3 o1) (af (ba w o1) r3 f3)
  have q4 := fun o1 => al r4 o1
  have qq4 := fun o1 o2 => al (al r4 o1) o2
  have p4 := fun o1 o2 => af (ba _ o2) (al r4 o1) (af (ba w o1) r4 f4)
  have q5 := fun o1 => al r5 o1
  have qq5 := fun o1 o2 => al (al r5 o1) o2
  have p5 := fun o1 o2 => af (ba _ o2) (al r5 o1) (af (ba w o1) r5 f5)
  have q6 := fun o1 => al r6 o1
  have qq6 := fun o1 o2 => al (al r6 o1) o2
  have p6 := fun o1 o2 => af (ba _ o2) (al r6 o1) (af (ba w o1) r6 f6)
  have q7 := fun o1 => al r7 o1
  have qq7 := fun o1 o2 => al (al r7 o1) o2
  have p7 := fun o1 o2 => af (ba _ o2) (al r7 o1) (af (ba w o1) r7 f7)
  have q8 := fun o1 => al r8 o1
  have qq8 := fun o1 o2 => al (al r8 o1) o2
  have p8 := fun o1 o2 => af (ba _ o2) (al r8 o1) (af (ba w o1) r8 f8)
  have q9 := fun o1 => al r9 o1
  have qq9 := fun o1 o2 => al (al r9 o1) o2
  have p9 := fun o1 o2 => af (ba _ o2) (al r9 o1) (af (ba w o1) r9 f9)
  have q10 := fun o1 => al r10 o1
  have qq10 := fun o1 o2 => al (al r10 o1) o2
  have p10 := fun o1 o2 => af (ba _ o2) (al r10 o1) (af (ba w o1) r10 f10)
  have t0 := fun o1 o2 => al (al y0 o1) o2
  have u0 := fun o1 o2 => af (ba _ o2) (al y0 o1) (af (ba w o1) y0 z0)
  have t1 := fun o1 o2 => al (al y1 o1) o2
  have u1 := fun o1 o2 => af (ba _ o2) (al y1 o1) (af (ba w o1) y1 z1)
  have k0 : (0 : Int) ≤ k := by omega
  have k1 : (k : Int) < 4 := by omega
  have i0 : (0 : Int) ≤ i := by omega
  have i1 : (i : Int) < n := by omega
  have hRb : ¬ R = b := fun e => hbR e.symm
  have hRl : R < w.heap.size := block_lt_of_cell y0
  have hRw : ¬ R = w.heap.size := by omega
  have hRw' : ¬ w.heap.size = R := by omega
  have hRv : ¬ R = w.heap.size + 1 := by omega
  have hRv' : ¬ w.heap.size + 1 = R := by omega
  have aq0 := fun i j x y o1 o2 => al (al (ss (R := R) (i := i) (j := j) (x := x) (y := y) r0 hbR) o1) o2
  have ap0 := fun i j x y o1 o2 => af (ba _ o2) (al (ss (R := R) (i := i) (j := j) (x := x) (y := y) r0 hbR) o1) (af (ba _ o1) (ss r0 hbR) (sz f0))
  have aq1 := fun i j x y o1 o2 => al (al (ss (R := R) (i := i) (j := j) (x := x) (y := y) r1 hbR) o1) o2
  have ap1 := fun i j x y o1 o2 => af (ba _ o2) (al (ss (R := R) (i := i) (j := j) (x := x) (y := y) r1 hbR) o1) (af (ba _ o1) (ss r1 hbR) (sz f1))
  have aq2 := fun i j x y o1 o2 => al (al (ss (R := R) (i := i) (j := j) (x := x) (y := y) r2 hbR) o1) o2
  have ap2 := fun i j x y o1 o2 => af (ba _ o2) (al (ss (R := R) (i := i) (j := j) (x := x) (y := y) r2 hbR) o1) (af (ba _ o1) (ss r2 hbR) (sz f2))
  have aq3 := fun i j x y o1 o2 => al (al (ss (R := R) (i := i) (j := j) (x := x) (y := y) r3 hbR) o1) o2
  have ap3 := fun i j x y o1 o2 => af (ba _ o2) (al (ss (R := R) (i := i) (j := j) (x := x) (y := y) r3 hbR) o1) (af (ba _ o1) (ss r3 hbR) (sz f3))
  have aq4 := fun i j x y o1 o2 => al (al (ss (R := R) (i := i) (j := j) (x := x) (y := y) r4 hbR) o1) o2
  have ap4 := fun i j x y o1 o2 => af (ba _ o2) (al (ss (R := R) (i := i) (j := j) (x := x) (y := y) r4 hbR) o1) (af (ba _ o1) (ss r4 hbR) (sz f4))
  have aq5 := fun i j x y o1 o2 => al (al (ss (R := R) (i := i) (j := j) (x := x) (y := y) r5 hbR) o1) o2
  have ap5 := fun i j x y o1 o2 => af (ba _ o2) (al (ss (R := R) (i := i) (j := j) (x := x) (y := y) r5 hbR) o1) (af (ba _ o1) (ss r5 hbR) (sz f5))
  have aq6 := fun i j x y o1 o2 => al (al (ss (R := R) (i := i) (j := j) (x := x) (y := y) r6 hbR) o1) o2
  have ap6 := fun i j x y o1 o2 => af (ba _ o2) (al (ss (R := R) (i := i) (j := j) (x := x) (y := y) r6 hbR) o1) (af (ba _ o1) (ss r6 hbR) (sz f6))
  have aq7 := fun i j x y o1 o2 => al (al (ss (R := R) (i := i) (j := j) (x := x) (y := y) r7 hbR) o1) o2
  have ap7 := fun i j x y o1 o2 => af (ba _ o2) (al (ss (R := R) (i := i) (j := j) (x := x) (y := y) r7 hbR) o1) (af (ba _ o1) (ss r7 hbR) (sz f7))
  have aq8 := fun i j x y o1 o2 => al (al (ss (R := R) (i := i) (j := j) (x := x) (y := y) r8 hbR) o1) o2
  have ap8 := fun i j x y o1 o2 => af (ba _ o2) (al (ss (R := R) (i := i) (j := j) (x := x) (y := y) r8 hbR) o1) (af (ba _ o1) (ss r8 hbR) (sz f8))
  have aq9 := fun i j x y o1 o2 => al (al (ss (R := R) (i := i) (j := j) (x := x) (y := y) r9 hbR) o1) o2
  have ap9 := fun i j x y o1 o2 => af (ba _ o2) (al (ss (R := R) (i := i) (j := j) (x := x) (y := y) r9 hbR) o1) (af (ba _ o1) (ss r9 hbR) (sz f9))
  have aq10 := fun i j x y o1 o2 => al (al (ss (R := R) (i := i) (j := j) (x := x) (y := y) r10 hbR) o1) o2
  have ap10 := fun i j x y o1 o2 => af (ba _ o2) (al (ss (R := R) (i := i) (j := j) (x := x) (y := y) r10 hbR) o1) (af (ba _ o1) (ss r10 hbR) (sz f10))
  clear h hr
  go_enter Try.func13, Try.ntmps13
  go_wp2
  go_region
  go_wp2
  go_end0
  exact fin_y H.out hk HB.out
set_option maxRecDepth 100000 in
set_option maxHeartbeats 2000000 in
theorem upd_d1 (b k R n i : Nat) (kd st : Int) (kd' st' ix' : Int) (w : World) (h : Room w b 48) (hr : Room w R (n * 2)) (hk : k < 4) (ho : SAt w b (1 + k * 11) ⟨kd, st, i, true⟩) (hi : i < n) (hn : n ≤ 4096) (hbR : b ≠ R) (e1 : (kd != 0) = true) (e3 : (st == 0) = false) :
    Calls Try.prog 13 #[.pointer (some ⟨b, 0, none⟩), .slice (some ⟨R, 0, none⟩) n n, .int .i64 k, (⟨kd', st', ix', true⟩ : Sd).val] w (PutP (fun x => x = b ∨ x = R) b k ⟨kd', st', ix', true⟩ w) := by
  have H := Lib.hid h
  have HB := Lib.hid hbR
  obtain ⟨r0, r1, r2, r3, r4, r5, r6, r7, r8, r9, r10⟩ := ho
  obtain ⟨-, -, f0⟩ := h (1 + k * 11) (by omega)
  obtain ⟨-, -, f1⟩ := h (1 + k * 11 + 1) (by omega)
  obtain ⟨-, -, f2⟩ := h (1 + k * 11 + 2) (by omega)
  obtain ⟨-, -, f3⟩ := h (1 + k * 11 + 3) (by omega)
  obtain ⟨-, -, f4⟩ := h (1 + k * 11 + 4) (by omega)
  obtain ⟨-, -, f5⟩ := h (1 + k * 11 + 5) (by omega)
  obtain ⟨-, -, f6⟩ := h (1 + k * 11 + 6) (by omega)
  obtain ⟨-, -, f7⟩ := h (1 + k * 11 + 7) (by omega)
  obtain ⟨-, -, f8⟩ := h (1 + k * 11 + 8) (by omega)
  obtain ⟨-, -, f9⟩ := h (1 + k * 11 + 9) (by omega)
  obtain ⟨-, -, f10⟩ := h (1 + k * 11 + 10) (by omega)
  obtain ⟨x0, y0, z0⟩ := hr (i * 2) (by omega)
  obtain ⟨x1, y1, z1⟩ := hr (i * 2 + 1) (by omega)
  have q0 := fun o1 => al r0 o1
  have qq0 := fun o1 o2 => al (al r0 o1) o2
  have p0 := fun o1 o2 => af (ba _ o2) (al r0 o1) (af (ba w o1) r0 f0)
  have q1 := fun o1 => al r1 o1
  have qq1 := fun o1 o2 => al (al r1 o1) o2
  have p1 := fun o1 o2 => af (ba _ o2) (al r1 o1) (af (ba w o1) r1 f1)
  have q2 := fun o1 => al r2 o1
  have qq2 := fun o1 o2 => al (al r2 o1) o2
  have p2 := fun o1 o2 => af (ba _ o2) (al r2 o1) (af (ba w o1) r2 f2)
  have q3 := fun o1 => al r3 o1
  have qq3 := fun o1 o2 => al (al r3 o1) o2
  have p3 := fun o1 o2 => af (ba _ o2) (al r3 o1) (af (ba w o1) r3 f3)
  have q4 := fun o1 => al r4 o1
  have qq4 := fun o1 o2 => al (al r4 o1) o2
  have p4 := fun o1 o2 => af (ba _ o2) (al r4 o1) (af (ba w o1) r4 f4)
  have q5 := fun o1 => al r5 o1
  have qq5 := fun o1 o2 => al (al r5 o1) o2
  have p5 := fun o1 o2 => af (ba _ o2) (al r5 o1) (af (ba w o1) r5 f5)
  have q6 := fun o1 => al r6 o1
  have qq6 := fun o1 o2 => al (al r6 o1) o2
  have p6 := fun o1 o2 => af (ba _ o2) (al r6 o1) (af (ba w o1) r6 f6)
  have q7 := fun o1 => al r7 o1
  have qq7 := fun o1 o2 => al (al r7 o1) o2
  have p7 := fun o1 o2 => af (ba _ o2) (al r7 o1) (af (ba w o1) r7 f7)
  have q8 := fun o1 => al r8 o1
  have qq8 := fun o1 o2 => al (al r8 o1) o2
  have p8 := fun o1 o2 => af (ba _ o2) (al r8 o1) (af (ba w o1) r8 f8)
  have q9 := fun o1 => al r9 o1
  have qq9 := fun o1 o2 => al (al r9 o1) o2
  have p9 := fun o1 o2 => af (ba _ o2) (al r9 o1) (af (ba w o1) r9 f9)
  have q10 := fun o1 => al r10 o1
  have qq10 := fun o1 o2 => al (al r10 o1) o2
  have p10 := fun o1 o2 => af (ba _ o2) (al r10 o1) (af (ba w o1) r10 f10)
  have t0 := fun o1 o2 => al (al y0 o1) o2
  have u0 := fun o1 o2 => af (ba _ o2) (al y0 o1) (af (ba w o1) y0 z0)
  have t1 := fun o1 o2 => al (al y1 o1) o2
  have u1 := fun o1 o2 => af (ba _ o2) (al y1 o1) (af (ba w o1) y1 z1)
  have k0 : (0 : Int) ≤ k := by omega
  have k1 : (k : Int) < 4 := by omega
  have i0 : (0 : Int) ≤ i := by omega
  have i1 : (i : Int) < n := by omega
  have hRb : ¬ R = b := fun e => hbR e.symm
  have hRl : R < w.heap.size := block_lt_of_cell y0
  have hRw : ¬ R = w.heap.size := by omega
  have hRw' : ¬ w.heap.size = R := by omega
  have hRv : ¬ R = w.heap.size + 1 := by omega
  have hRv' : ¬ w.heap.size + 1 = R := by omega
  clear h hr
  go_enter Try.func13, Try.ntmps13
  go_wp2
  go_region
  go_wp2
  go_end0
  exact fin_a H.out hk
set_option maxRecDepth 100000 in
set_option maxHeartbeats 2000000 in
theorem upd_d2 (b k R n i : Nat) (kd st : Int) (kd' st' ix' : Int) (w : World) (h : Room w b 48) (hr : Room w R (n * 2)) (hk : k < 4) (ho : SAt w b (1 + k * 11) ⟨kd, st, i, true⟩) (hi : i < n) (hn : n ≤ 4096) (hbR : b ≠ R) (e1 : (kd != 0) = true) (e3 : (st == 0) = true) (e4 : (st' == 0) = false) :
    Calls Try.prog 13 #[.pointer (some ⟨b, 0, none⟩), .slice (some ⟨R, 0, none⟩) n n, .int .i64 k, (⟨kd', st', ix', true⟩ : Sd).val] w (PutP (fun x => x = b ∨ x = R) b k ⟨kd', st', ix', true⟩ w) := by
  have H := Lib.hid h
  have HB := Lib.hid hbR
  obtain ⟨r0, r1, r2, r3, r4, r5, r6, r7, r8, r9, r10⟩ := ho
  obtain ⟨-, -, f0⟩ := h (1 + k * 11) (by omega)
  obtain ⟨-, -, f1⟩ := h (1 + k * 11 + 1) (by omega)
  obtain ⟨-, -, f2⟩ := h (1 + k * 11 + 2) (by omega)
  obtain ⟨-, -, f3⟩ := h (1 + k * 11 + 3) (by omega)
  obtain ⟨-, -, f4⟩ := h (1 + k * 11 + 4) (by omega)
  obtain ⟨-, -, f5⟩ := h (1 + k * 11 + 5) (by omega)
  obtain ⟨-, -, f6⟩ := h (1 + k * 11 + 6) (by omega)
  obtain ⟨-, -, f7⟩ := h (1 + k * 11 + 7) (by omega)
  obtain ⟨-, -, f8⟩ := h (1 + k * 11 + 8) (by omega)
  obtain ⟨-, -, f9⟩ := h (1 + k * 11 + 9) (by omega)
  obtain ⟨-, -, f10⟩ := h (1 + k * 11 + 10) (by omega)
  obtain ⟨x0, y0, z0⟩ := hr (i * 2) (by omega)
  obtain ⟨x1, y1, z1⟩ := hr (i * 2 + 1) (by omega)
  have q0 := fun o1 => al r0 o1
  have qq0 := fun o1 o2 => al (al r0 o1) o2
  have p0 := fun o1 o2 => af (ba _ o2) (al r0 o1) (af (ba w o1) r0 f0)
  have q1 := fun o1 => al r1 o1
  have qq1 := fun o1 o2 => al (al r1 o1) o2
  have p1 := fun o1 o2 => af (ba _ o2) (al r1 o1) (af (ba w o1) r1 f1)
  have q2 := fun o1 => al r2 o1
  have qq2 := fun o1 o2 => al (al r2 o1) o2
  have p2 := fun o1 o2 => af (ba _ o2) (al r2 o1) (af (ba w o1) r2 f2)
  have q3 := fun o1 => al r3 o1
  have qq3 := fun o1 o2 => al (al r3 o1) o2
  have p3 := fun o1 o2 => af (ba _ o2) (al r3 o1) (af (ba w o1) r3 f3)
  have q4 := fun o1 => al r4 o1
  have qq4 := fun o1 o2 => al (al r4 o1) o2
  have p4 := fun o1 o2 => af (ba _ o2) (al r4 o1) (af (ba w o1) r4 f4)
  have q5 := fun o1 => al r5 o1
  have qq5 := fun o1 o2 => al (al r5 o1) o2
  have p5 := fun o1 o2 => af (ba _ o2) (al r5 o1) (af (ba w o1) r5 f5)
  have q6 := fun o1 => al r6 o1
  have qq6 := fun o1 o2 => al (al r6 o1) o2
  have p6 := fun o1 o2 => af (ba _ o2) (al r6 o1) (af (ba w o1) r6 f6)
  have q7 := fun o1 => al r7 o1
  have qq7 := fun o1 o2 => al (al r7 o1) o2
  have p7 := fun o1 o2 => af (ba _ o2) (al r7 o1) (af (ba w o1) r7 f7)
  have q8 := fun o1 => al r8 o1
  have qq8 := fun o1 o2 => al (al r8 o1) o2
  have p8 := fun o1 o2 => af (ba _ o2) (al r8 o1) (af (ba w o1) r8 f8)
  have q9 := fun o1 => al r9 o1
  have qq9 := fun o1 o2 => al (al r9 o1) o2
  have p9 := fun o1 o2 => af (ba _ o2) (al r9 o1) (af (ba w o1) r9 f9)
  have q10 := fun o1 => al r10 o1
  have qq10 := fun o1 o2 => al (al r10 o1) o2
  have p10 := fun o1 o2 => af (ba _ o2) (al r10 o1) (af (ba w o1) r10 f10)
  have t0 := fun o1 o2 => al (al y0 o1) o2
  have u0 := fun o1 o2 => af (ba _ o2) (al y0 o1) (af (ba w o1) y0 z0)
  have t1 := fun o1 o2 => al (al y1 o1) o2
  have u1 := fun o1 o2 => af (ba _ o2) (al y1 o1) (af (ba w o1) y1 z1)
  have k0 : (0 : Int) ≤ k := by omega
  have k1 : (k : Int) < 4 := by omega
  have i0 : (0 : Int) ≤ i := by omega
  have i1 : (i : Int) < n := by omega
  have hRb : ¬ R = b := fun e => hbR e.symm
  have hRl : R < w.heap.size := block_lt_of_cell y0
  have hRw : ¬ R = w.heap.size := by omega
  have hRw' : ¬ w.heap.size = R := by omega
  have hRv : ¬ R = w.heap.size + 1 := by omega
  have hRv' : ¬ w.heap.size + 1 = R := by omega
  clear h hr
  go_enter Try.func13, Try.ntmps13
  go_wp2
  go_region
  go_wp2
  go_end0
  exact fin_a H.out hk
set_option maxRecDepth 100000 in
set_option maxHeartbeats 2000000 in
theorem upd_d3 (b k R n i : Nat) (kd st : Int) (kd' st' ix' : Int) (w : World) (h : Room w b 48) (hr : Room w R (n * 2)) (hk : k < 4) (ho : SAt w b (1 + k * 11) ⟨kd, st, i, true⟩) (hi : i < n) (hn : n ≤ 4096) (hbR : b ≠ R) (e1 : (kd != 0) = true) (e3 : (st == 0) = true) (e4 : (st' == 0) = true) :
    Calls Try.prog 13 #[.pointer (some ⟨b, 0, none⟩), .slice (some ⟨R, 0, none⟩) n n, .int .i64 k, (⟨kd', st', ix', true⟩ : Sd).val] w (PutP (fun x => x = b ∨ x = R) b k ⟨kd', st', ix', true⟩ w) := by
  have H := Lib.hid h
  have HB := Lib.hid hbR
  obtain ⟨r0, r1, r2, r3, r4, r5, r6, r7, r8, r9, r10⟩ := ho
  obtain ⟨-, -, f0⟩ := h (1 + k * 11) (by omega)
  obtain ⟨-, -, f1⟩ := h (1 + k * 11 + 1) (by omega)
  obtain ⟨-, -, f2⟩ := h (1 + k * 11 + 2) (by omega)
  obtain ⟨-, -, f3⟩ := h (1 + k * 11 + 3) (by omega)
  obtain ⟨-, -, f4⟩ := h (1 + k * 11 + 4) (by omega)
  obtain ⟨-, -, f5⟩ := h (1 + k * 11 + 5) (by omega)
  obtain ⟨-, -, f6⟩ := h (1 + k * 11 + 6) (by omega)
  obtain ⟨-, -, f7⟩ := h (1 + k * 11 + 7) (by omega)
  obtain ⟨-, -, f8⟩ := h (1 + k * 11 + 8) (by omega)
  obtain ⟨-, -, f9⟩ := h (1 + k * 11 + 9) (by omega)
  obtain ⟨-, -, f10⟩ := h (1 + k * 11 + 10) (by omega)
  obtain ⟨x0, y0, z0⟩ := hr (i * 2) (by omega)
  obtain ⟨x1, y1, z1⟩ := hr (i * 2 + 1) (by omega)
  have q0 := fun o1 => al r0 o1
  have qq0 := fun o1 o2 => al (al r0 o1) o2
  have p0 := fun o1 o2 => af (ba _ o2) (al r0 o1) (af (ba w o1) r0 f0)
  have q1 := fun o1 => al r1 o1
  have qq1 := fun o1 o2 => al (al r1 o1) o2
  have p1 := fun o1 o2 => af (ba _ o2) (al r1 o1) (af (ba w o1) r1 f1)
  have q2 := fun o1 => al r2 o1
  have qq2 := fun o1 o2 => al (al r2 o1) o2
  have p2 := fun o1 o2 => af (ba _ o2) (al r2 o1) (af (ba w o1) r2 f2)
  have q3 := fun o1 => al r3 o1
  have qq3 := fun o1 o2 => al (al r3 o1) o2
  have p3 := fun o1 o2 => af (ba _ o2) (al r3 o1) (af (ba w o1) r3 f3)
  have q4 := fun o1 => al r4 o1
  have qq4 := fun o1 o2 => al (al r4 o1) o2
  have p4 := fun o1 o2 => af (ba _ o2) (al r4 o1) (af (ba w o1) r4 f4)
  have q5 := fun o1 => al r5 o1
  have qq5 := fun o1 o2 => al (al r5 o1) o2
  have p5 := fun o1 o2 => af (ba _ o2) (al r5 o1) (af (ba w o1) r5 f5)
  have q6 := fun o1 => al r6 o1
  have qq6 := fun o1 o2 => al (al r6 o1) o2
  have p6 := fun o1 o2 => af (ba _ o2) (al r6 o1) (af (ba w o1) r6 f6)
  have q7 := fun o1 => al r7 o1
  have qq7 := fun o1 o2 => al (al r7 o1) o2
  have p7 := fun o1 o2 => af (ba _ o2) (al r7 o1) (af (ba w o1) r7 f7)
  have q8 := fun o1 => al r8 o1
  have qq8 := fun o1 o2 => al (al r8 o1) o2
  have p8 := fun o1 o2 => af (ba _ o2) (al r8 o1) (af (ba w o1) r8 f8)
  have q9 := fun o1 => al r9 o1
  have qq9 := fun o1 o2 => al (al r9 o1) o2
  have p9 := fun o1 o2 => af (ba _ o2) (al r9 o1) (af (ba w o1) r9 f9)
  have q10 := fun o1 => al r10 o1
  have qq10 := fun o1 o2 => al (al r10 o1) o2
  have p10 := fun o1 o2 => af (ba _ o2) (al r10 o1) (af (ba w o1) r10 f10)
  have t0 := fun o1 o2 => al (al y0 o1) o2
  have u0 := fun o1 o2 => af (ba _ o2) (al y0 o1) (af (ba w o1) y0 z0)
  have t1 := fun o1 o2 => al (al y1 o1) o2
  have u1 := fun o1 o2 => af (ba _ o2) (al y1 o1) (af (ba w o1) y1 z1)
  have k0 : (0 : Int) ≤ k := by omega
  have k1 : (k : Int) < 4 := by omega
  have i0 : (0 : Int) ≤ i := by omega
  have i1 : (i : Int) < n := by omega
  have hRb : ¬ R = b := fun e => hbR e.symm
  have hRl : R < w.heap.size := block_lt_of_cell y0
  have hRw : ¬ R = w.heap.size := by omega
  have hRw' : ¬ w.heap.size = R := by omega
  have hRv : ¬ R = w.heap.size + 1 := by omega
  have hRv' : ¬ w.heap.size + 1 = R := by omega
  have aq0 := fun i j x y o1 o2 => al (al (ss (R := R) (i := i) (j := j) (x := x) (y := y) r0 hbR) o1) o2
  have ap0 := fun i j x y o1 o2 => af (ba _ o2) (al (ss (R := R) (i := i) (j := j) (x := x) (y := y) r0 hbR) o1) (af (ba _ o1) (ss r0 hbR) (sz f0))
  have aq1 := fun i j x y o1 o2 => al (al (ss (R := R) (i := i) (j := j) (x := x) (y := y) r1 hbR) o1) o2
  have ap1 := fun i j x y o1 o2 => af (ba _ o2) (al (ss (R := R) (i := i) (j := j) (x := x) (y := y) r1 hbR) o1) (af (ba _ o1) (ss r1 hbR) (sz f1))
  have aq2 := fun i j x y o1 o2 => al (al (ss (R := R) (i := i) (j := j) (x := x) (y := y) r2 hbR) o1) o2
  have ap2 := fun i j x y o1 o2 => af (ba _ o2) (al (ss (R := R) (i := i) (j := j) (x := x) (y := y) r2 hbR) o1) (af (ba _ o1) (ss r2 hbR) (sz f2))
  have aq3 := fun i j x y o1 o2 => al (al (ss (R := R) (i := i) (j := j) (x := x) (y := y) r3 hbR) o1) o2
  have ap3 := fun i j x y o1 o2 => af (ba _ o2) (al (ss (R := R) (i := i) (j := j) (x := x) (y := y) r3 hbR) o1) (af (ba _ o1) (ss r3 hbR) (sz f3))
  have aq4 := fun i j x y o1 o2 => al (al (ss (R := R) (i := i) (j := j) (x := x) (y := y) r4 hbR) o1) o2
  have ap4 := fun i j x y o1 o2 => af (ba _ o2) (al (ss (R := R) (i := i) (j := j) (x := x) (y := y) r4 hbR) o1) (af (ba _ o1) (ss r4 hbR) (sz f4))
  have aq5 := fun i j x y o1 o2 => al (al (ss (R := R) (i := i) (j := j) (x := x) (y := y) r5 hbR) o1) o2
  have ap5 := fun i j x y o1 o2 => af (ba _ o2) (al (ss (R := R) (i := i) (j := j) (x := x) (y := y) r5 hbR) o1) (af (ba _ o1) (ss r5 hbR) (sz f5))
  have aq6 := fun i j x y o1 o2 => al (al (ss (R := R) (i := i) (j := j) (x := x) (y := y) r6 hbR) o1) o2
  have ap6 := fun i j x y o1 o2 => af (ba _ o2) (al (ss (R := R) (i := i) (j := j) (x := x) (y := y) r6 hbR) o1) (af (ba _ o1) (ss r6 hbR) (sz f6))
  have aq7 := fun i j x y o1 o2 => al (al (ss (R := R) (i := i) (j := j) (x := x) (y := y) r7 hbR) o1) o2
  have ap7 := fun i j x y o1 o2 => af (ba _ o2) (al (ss (R := R) (i := i) (j := j) (x := x) (y := y) r7 hbR) o1) (af (ba _ o1) (ss r7 hbR) (sz f7))
  have aq8 := fun i j x y o1 o2 => al (al (ss (R := R) (i := i) (j := j) (x := x) (y := y) r8 hbR) o1) o2
  have ap8 := fun i j x y o1 o2 => af (ba _ o2) (al (ss (R := R) (i := i) (j := j) (x := x) (y := y) r8 hbR) o1) (af (ba _ o1) (ss r8 hbR) (sz f8))
  have aq9 := fun i j x y o1 o2 => al (al (ss (R := R) (i := i) (j := j) (x := x) (y := y) r9 hbR) o1) o2
  have ap9 := fun i j x y o1 o2 => af (ba _ o2) (al (ss (R := R) (i := i) (j := j) (x := x) (y := y) r9 hbR) o1) (af (ba _ o1) (ss r9 hbR) (sz f9))
  have aq10 := fun i j x y o1 o2 => al (al (ss (R := R) (i := i) (j := j) (x := x) (y := y) r10 hbR) o1) o2
  have ap10 := fun i j x y o1 o2 => af (ba _ o2) (al (ss (R := R) (i := i) (j := j) (x := x) (y := y) r10 hbR) o1) (af (ba _ o1) (ss r10 hbR) (sz f10))
  clear h hr
  go_enter Try.func13, Try.ntmps13
  go_wp2
  go_region
  go_wp2
  go_end0
  exact fin_y H.out hk HB.out
theorem upd13_c (b k R n i : Nat) (O S : Sd) (w : World) (h : Room w b 48) (hr : Room w R (n * 2)) (hk : k < 4) (ho : SAt w b (1 + k * 11) O) (hO : O.ix = i) (hi : i < n) (hn : n ≤ 4096) (hbR : b ≠ R) : 
    Calls Try.prog 13 #[.pointer (some ⟨b, 0, none⟩), .slice (some ⟨R, 0, none⟩) n n, .int .i64 k, S.val] w (PutP (fun x => x = b ∨ x = R) b k S w) := by
  obtain ⟨kd, st, ix, sg⟩ := O
  obtain ⟨kd', st', ix', sg'⟩ := S
  cases hO
  cases e1 : (kd != 0)
  · exact upd_a b k R n i kd st sg kd' st' ix' sg' w h hr hk ho hi hn hbR e1
  · cases sg'
    · cases e3 : (st == 0)
      · exact upd_c1 b k R n i kd st sg kd' st' ix' w h hr hk ho hi hn hbR e1 e3
      · cases e4 : (st' == 0)
        · exact upd_c2 b k R n i kd st sg kd' st' ix' w h hr hk ho hi hn hbR e1 e3 e4
        · exact upd_c3 b k R n i kd st sg kd' st' ix' w h hr hk ho hi hn hbR e1 e3 e4
    · cases sg
      · exact upd_b b k R n i kd st kd' st' ix' w h hr hk ho hi hn hbR e1
      · cases e3 : (st == 0)
        · exact upd_d1 b k R n i kd st kd' st' ix' w h hr hk ho hi hn hbR e1 e3
        · cases e4 : (st' == 0)
          · exact upd_d2 b k R n i kd st kd' st' ix' w h hr hk ho hi hn hbR e1 e3 e4
          · exact upd_d3 b k R n i kd st kd' st' ix' w h hr hk ho hi hn hbR e1 e3 e4
end Go.Proofs.Ytbakdeoeceajeaa
