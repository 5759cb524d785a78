/- FnMangleSide: the small functions. -/
import Derived.Test.YtgijoikmggjopaaDoorMk
import Derived.Test.YtgijoikmggjopaaDoorArg
import Derived.Test.YtgijoikmggjopaaDoorIU
import Derived.Test.YtgijoikmggjopaaDoorSeg
import Derived.OwnWalk
import Derived.WalkMore
set_option linter.unusedVariables false
set_option linter.unusedSimpArgs false
namespace Go.Proofs.YtgijoikmggjopaaDoor
open Go.RowKit
def Gv (v : Value) (w : World) (e : Ending) (w' : World) : Prop := e = .returned v ∧ Below w.heap.size w w'
def kdS (c : Int) : Int := if c = 0 then 30 else if c = 1 then 34 else if c = 2 then 34 else if c = 3 then 29 else 30
def txS (c : Int) : ByteArray := if c = 0 then ⟨#[48]⟩ else if c = 1 then ⟨#[49, 37]⟩ else if c = 2 then ⟨#[50, 37]⟩ else if c = 3 then ⟨#[97, 117, 116, 111]⟩ else ⟨#[53]⟩
/-- the token of a code, at a place -/
def zk (c lo : Int) : Tk := ⟨.pointer none, txS c, lo, 0, 0, kdS c, 0⟩
theorem c5 {c : Int} (h0 : 0 ≤ c) (h1 : c ≤ 4) : c = 0 ∨ c = 1 ∨ c = 2 ∨ c = 3 ∨ c = 4 := by omega
set_option maxRecDepth 100000 in
set_option maxHeartbeats 4000000 in
theorem tok_c (c lo : Int) (w : World) (h0 : 0 ≤ c) (h1 : c ≤ 4) : Calls Tryd.prog 6 #[.int .u8 c, .int .i32 lo] w (Gv (zk c lo).val w) := by
  show Calls Tryd.prog 6 #[.int .u8 c, .int .i32 lo] w (Gv (.agg #[.pointer none, .string (txS c), .int .i32 lo, .int .u32 0, .int .u16 0, .int .u8 (kdS c), .int .u8 0]) w)
  rcases c5 h0 h1 with rfl | rfl | rfl | rfl | rfl
  all_goals
    clear h0 h1
    simp only [txS, kdS]
    go_enter Tryd.func6, Tryd.ntmps6
    go_wp2
    exact bodyPost_ret (v := .agg #[.pointer none, _, _, .int .u32 0, .int .u16 0, _, .int .u8 0]) (by simp [results, Tryd.results6, go_sem]) rfl ⟨rfl, (ba w _).trans ((ba _ _).mono (by simp))⟩
set_option maxRecDepth 100000 in
set_option maxHeartbeats 4000000 in
theorem num_c (k : Int) (w : World) : Calls Tryd.prog 16 #[.int .u8 k] w (fun e w' => e = .returned (.bool (k == 30 || k == 34 || k == 26)) ∧ w = w') := by
  cases a : k == 30 <;> cases b : k == 34 <;> cases d : k == 26
  all_goals
    go_enter Tryd.func16, Tryd.ntmps16
    go_wp2
    go_ret
    exact ⟨rfl, rfl⟩
/-- equal but for whitespace -/
def tkEq (s t : Tk) : Bool := s.kd == t.kd && (s.tx.toList == t.tx.toList) && s.pl == t.pl
set_option maxRecDepth 100000 in
set_option maxHeartbeats 4000000 in
theorem eq_c (s t : Tk) (hs : s.ch = .pointer none) (ht : t.ch = .pointer none) (w : World) : Calls Tryd.prog 34 #[s.val, t.val] w (Gv (.bool (tkEq s t)) w) := by
  obtain ⟨c, x, lo, pl, uo, kd, ws⟩ := s
  obtain ⟨c', x', lo', pl', uo', kd', ws'⟩ := t
  dsimp only at hs ht
  subst hs ht
  unfold tkEq
  dsimp only
  have go : ∀ (b1 b2 b3 : Bool), (kd == kd') = b1 → (x.toList == x'.toList) = b2 → (pl == pl') = b3 → Calls Tryd.prog 34 #[(⟨.pointer none, x, lo, pl, uo, kd, ws⟩ : Tk).val, (⟨.pointer none, x', lo', pl', uo', kd', ws'⟩ : Tk).val] w (Gv (.bool (b1 && b2 && b3)) w) := by
    intro b1 b2 b3 h1 h2 h3
    cases b1 <;> cases b2 <;> cases b3
    all_goals
      go_enter Tryd.func34, Tryd.ntmps34
      go_wp2
      go_ret
      exact ⟨rfl, ((ba _ _).alloc (by simp) _)⟩
  exact go _ _ _ rfl rfl rfl
set_option maxRecDepth 100000 in
set_option maxHeartbeats 4000000 in
theorem ta36 (p : Value) (W : World) : (Instr.typeAssert (.iface 32 p) 48 32 true).run Tryd.prog W = .ok (.tuple #[p, .bool true]) W := by kernel_rfl
theorem taN (W : World) : (Instr.typeAssert .nilIface 48 32 true).run Tryd.prog W = .ok (.tuple #[.pointer none, .bool false]) W := by kernel_rfl
theorem declOf_c (p : Addr) (lo : Int) (w : World) : Calls Tryd.prog 9 #[.agg #[.iface 32 (.pointer (some p)), .int .i32 lo]] w (Gv (.pointer (some p)) w) := by
  have ta := ta36
  go_enter Tryd.func9, Tryd.ntmps9
  go_wp2
  go_ret
  exact ⟨rfl, ba _ _⟩
theorem declOf_nil (lo : Int) (w : World) : Calls Tryd.prog 9 #[.agg #[.nilIface, .int .i32 lo]] w (Gv (.pointer none) w) := by
  have ta := taN
  go_enter Tryd.func9, Tryd.ntmps9
  go_wp2
  go_ret
  exact ⟨rfl, ba _ _⟩
set_option maxRecDepth 100000 in
set_option maxHeartbeats 4000000 in
/-- tokens of a safe unit, or none of a unit -/
def unitSt (st : Int) (t : Tk) : Int := if t.kd = 34 then st else if t.kd = 30 then (if t.tx.toList = [48] then st else 2) else 2
structure UnP (B : Nat) (u : ByteArray) (st : Int) (w : World) (e : Ending) (w' : World) : Prop where
  ret : e = .returned (.tuple #[])
  only : Only (fun b => b = B) w w'
  c0 : w'.cell? ⟨B, 0, none⟩ = some (.string u)
  c1 : w'.cell? ⟨B, 1, none⟩ = some (.int .u8 st)
  f1 : w'.frozen? ⟨B, 1, none⟩ = false
theorem UnP.same {B : Nat} {u : ByteArray} {st : Int} {w w' : World} (c0 : w.cell? ⟨B, 0, none⟩ = some (.string u)) (c1 : w.cell? ⟨B, 1, none⟩ = some (.int .u8 st)) (f1 : w.frozen? ⟨B, 1, none⟩ = false) (hb : Below w.heap.size w w') : UnP B u st w (.returned (.tuple #[])) w' :=
  ⟨rfl, Only.of hb, ac hb c0, ac hb c1, af hb c1 f1⟩
theorem UnP.two {B : Nat} {u : ByteArray} {st : Int} {w : World} {o : Obj} (c0 : w.cell? ⟨B, 0, none⟩ = some (.string u)) (c1 : w.cell? ⟨B, 1, none⟩ = some (.int .u8 st)) (f1 : w.frozen? ⟨B, 1, none⟩ = false) : UnP B u 2 w (.returned (.tuple #[])) ((w.setCell ⟨B, 1, none⟩ (.int .u8 2)).alloc o) :=
  ⟨rfl, ((Only.refl (S := fun b => b = B) w).set ⟨B, 1, none⟩ _ rfl).trans (Only.of (ba _ o)), al (by rw [co (by intro h; injection h; omega)]; exact c0) o, al (cs c1) o, af (ba _ o) (cs c1) (by rw [fz]; exact f1)⟩
set_option maxRecDepth 100000 in
set_option maxHeartbeats 4000000 in
theorem unit_34 (st : Int) (B : Nat) (u : ByteArray) (ch : Value) (x : ByteArray) (lo pl uo ws : Int) (w : World) (c0 : w.cell? ⟨B, 0, none⟩ = some (.string u)) (c1 : w.cell? ⟨B, 1, none⟩ = some (.int .u8 st)) (f1 : w.frozen? ⟨B, 1, none⟩ = false) :
    Calls Tryd.prog 18 #[.pointer (some ⟨B, 0, none⟩), (⟨ch, x, lo, pl, uo, 34, ws⟩ : Tk).val] w (UnP B u st w) := by
  have hz := block_lt_of_cell c1
  have q1 := fun o => al c1 o
  have p1 := fun o => af (ba w o) c1 f1
  have F := Lib.hid (And.intro c0 (And.intro c1 f1))
  clear c0 f1
  go_enter Tryd.func18, Tryd.ntmps18
  go_wp2
  exact bodyPost_ret (v := .tuple #[]) (by simp [results, Tryd.results18, go_sem]) rfl (UnP.same F.out.1 F.out.2.1 F.out.2.2 (ba _ _))
set_option maxRecDepth 100000 in
set_option maxHeartbeats 4000000 in
theorem unit_300 (st : Int) (B : Nat) (u : ByteArray) (ch : Value) (x : ByteArray) (lo pl uo ws : Int) (h : (x.toList == [48]) = true) (w : World) (c0 : w.cell? ⟨B, 0, none⟩ = some (.string u)) (c1 : w.cell? ⟨B, 1, none⟩ = some (.int .u8 st)) (f1 : w.frozen? ⟨B, 1, none⟩ = false) :
    Calls Tryd.prog 18 #[.pointer (some ⟨B, 0, none⟩), (⟨ch, x, lo, pl, uo, 30, ws⟩ : Tk).val] w (UnP B u st w) := by
  have hz := block_lt_of_cell c1
  have q1 := fun o => al c1 o
  have p1 := fun o => af (ba w o) c1 f1
  have F := Lib.hid (And.intro c0 (And.intro c1 f1))
  clear c0 f1
  go_enter Tryd.func18, Tryd.ntmps18
  go_wp2
  exact bodyPost_ret (v := .tuple #[]) (by simp [results, Tryd.results18, go_sem]) rfl (UnP.same F.out.1 F.out.2.1 F.out.2.2 (ba _ _))
set_option maxRecDepth 100000 in
set_option maxHeartbeats 4000000 in
theorem unit_301 (st : Int) (B : Nat) (u : ByteArray) (ch : Value) (x : ByteArray) (lo pl uo ws : Int) (h : (x.toList == [48]) = false) (w : World) (c0 : w.cell? ⟨B, 0, none⟩ = some (.string u)) (c1 : w.cell? ⟨B, 1, none⟩ = some (.int .u8 st)) (f1 : w.frozen? ⟨B, 1, none⟩ = false) :
    Calls Tryd.prog 18 #[.pointer (some ⟨B, 0, none⟩), (⟨ch, x, lo, pl, uo, 30, ws⟩ : Tk).val] w (UnP B u 2 w) := by
  have hz := block_lt_of_cell c1
  have q1 := fun o => al c1 o
  have p1 := fun o => af (ba w o) c1 f1
  have F := Lib.hid (And.intro c0 (And.intro c1 f1))
  clear c0 f1
  go_enter Tryd.func18, Tryd.ntmps18
  go_wp2
  exact bodyPost_end (v := .tuple #[]) (by simp [results, Tryd.results18, go_sem]) rfl (UnP.two F.out.1 F.out.2.1 F.out.2.2)
set_option maxRecDepth 100000 in
set_option maxHeartbeats 4000000 in
theorem unit_29 (st : Int) (B : Nat) (u : ByteArray) (ch : Value) (x : ByteArray) (lo pl uo ws : Int) (w : World) (c0 : w.cell? ⟨B, 0, none⟩ = some (.string u)) (c1 : w.cell? ⟨B, 1, none⟩ = some (.int .u8 st)) (f1 : w.frozen? ⟨B, 1, none⟩ = false) :
    Calls Tryd.prog 18 #[.pointer (some ⟨B, 0, none⟩), (⟨ch, x, lo, pl, uo, 29, ws⟩ : Tk).val] w (UnP B u 2 w) := by
  have hz := block_lt_of_cell c1
  have q1 := fun o => al c1 o
  have p1 := fun o => af (ba w o) c1 f1
  have F := Lib.hid (And.intro c0 (And.intro c1 f1))
  clear c0 f1
  go_enter Tryd.func18, Tryd.ntmps18
  go_wp2
  exact bodyPost_end (v := .tuple #[]) (by simp [results, Tryd.results18, go_sem]) rfl (UnP.two F.out.1 F.out.2.1 F.out.2.2)
set_option maxRecDepth 100000 in
set_option maxHeartbeats 4000000 in
theorem unit_24 (st : Int) (B : Nat) (u : ByteArray) (ch : Value) (x : ByteArray) (lo pl uo ws : Int) (w : World) (c0 : w.cell? ⟨B, 0, none⟩ = some (.string u)) (c1 : w.cell? ⟨B, 1, none⟩ = some (.int .u8 st)) (f1 : w.frozen? ⟨B, 1, none⟩ = false) :
    Calls Tryd.prog 18 #[.pointer (some ⟨B, 0, none⟩), (⟨ch, x, lo, pl, uo, 24, ws⟩ : Tk).val] w (UnP B u 2 w) := by
  have hz := block_lt_of_cell c1
  have q1 := fun o => al c1 o
  have p1 := fun o => af (ba w o) c1 f1
  have F := Lib.hid (And.intro c0 (And.intro c1 f1))
  clear c0 f1
  go_enter Tryd.func18, Tryd.ntmps18
  go_wp2
  exact bodyPost_end (v := .tuple #[]) (by simp [results, Tryd.results18, go_sem]) rfl (UnP.two F.out.1 F.out.2.1 F.out.2.2)
theorem unit_c (st : Int) (B : Nat) (u : ByteArray) (t : Tk) (hk : t.kd = 34 ∨ t.kd = 30 ∨ t.kd = 29 ∨ t.kd = 24) (w : World) (c0 : w.cell? ⟨B, 0, none⟩ = some (.string u)) (c1 : w.cell? ⟨B, 1, none⟩ = some (.int .u8 st)) (f1 : w.frozen? ⟨B, 1, none⟩ = false) :
    Calls Tryd.prog 18 #[.pointer (some ⟨B, 0, none⟩), t.val] w (UnP B u (unitSt st t) w) := by
  obtain ⟨ch, x, lo, pl, uo, kd, ws⟩ := t
  unfold unitSt
  dsimp only at hk ⊢
  rcases hk with rfl | rfl | rfl | rfl
  · rw [if_pos rfl]; exact unit_34 st B u ch x lo pl uo ws w c0 c1 f1
  · rw [if_neg (by decide), if_pos rfl]
    by_cases h : x.toList = [48]
    · rw [if_pos h]; exact unit_300 st B u ch x lo pl uo ws (by rw [h]; rfl) w c0 c1 f1
    · rw [if_neg h]; exact unit_301 st B u ch x lo pl uo ws (by simpa using h) w c0 c1 f1
  · rw [if_neg (by decide), if_neg (by decide)]; exact unit_29 st B u ch x lo pl uo ws w c0 c1 f1
  · rw [if_neg (by decide), if_neg (by decide)]; exact unit_24 st B u ch x lo pl uo ws w c0 c1 f1
set_option maxRecDepth 100000 in
set_option maxHeartbeats 4000000 in
theorem safe_c (st st' : Int) (u : ByteArray) (h : (st = 0 ∧ st' = 0) ∨ st = 2 ∨ st' = 2) (h0 : st = 0 ∨ st = 2) (h1 : st' = 0 ∨ st' = 2) (w : World) : Calls Tryd.prog 28 #[.agg #[.string u, .int .u8 st], .agg #[.string u, .int .u8 st']] w (Gv (.bool (st == 0 && st' == 0)) w) := by
  rcases h0 with rfl | rfl <;> rcases h1 with rfl | rfl
  all_goals
    clear h
    go_enter Tryd.func28, Tryd.ntmps28
    go_wp2
    go_ret
    exact ⟨rfl, ((ba _ _).alloc (by simp) _)⟩
set_option maxRecDepth 100000 in
set_option maxHeartbeats 4000000 in
theorem turn_c (B o : Nat) (t : Tk) (hk : (t.kd == 26) = false) (w : World) (h : TAt w B o t) : Calls Tryd.prog 19 #[.pointer (some ⟨B, o, none⟩)] w (fun e w' => e = .returned (.bool false) ∧ w = w') := by
  have d5 := h.c5
  clear h
  go_enter Tryd.func19, Tryd.ntmps19
  go_wp2
  go_ret
  exact ⟨rfl, rfl⟩
set_option maxRecDepth 100000 in
set_option maxHeartbeats 4000000 in
theorem acc_c (c : Int) (m : Bool) (w : World) : Calls Tryd.prog 8 #[.int .u8 c, .bool m] w (fun e w' => e = .returned (.bool (c != 3 || m)) ∧ w = w') := by
  cases h : c != 3 <;> cases m
  all_goals
    go_enter Tryd.func8, Tryd.ntmps8
    go_wp2
    go_ret
    exact ⟨rfl, rfl⟩
theorem has_c (p : Addr) (lo : Int) (w : World) : Calls Tryd.prog 11 #[.agg #[.iface 32 (.pointer (some p)), .int .i32 lo]] w (Gv (.bool true) w) := by
  go_enter Tryd.func11, Tryd.ntmps11
  go_wp2
  go_ret
  exact ⟨rfl, ba _ _⟩
theorem has_nil (lo : Int) (w : World) : Calls Tryd.prog 11 #[.agg #[.nilIface, .int .i32 lo]] w (Gv (.bool false) w) := by
  go_enter Tryd.func11, Tryd.ntmps11
  go_wp2
  go_ret
  exact ⟨rfl, ba _ _⟩
set_option maxRecDepth 100000 in
set_option maxHeartbeats 4000000 in
theorem eqf_c (w : World) : Calls Tryd.prog 17 #[.string ⟨#[97, 117, 116, 111]⟩, .string ⟨#[97, 117, 116, 111]⟩] w (Gv (.bool true) w) := by
  go_enter Tryd.func17, Tryd.ntmps17
  go_wp2
  go_step3
  go_wp2
  go_loopw [5] (fun v wr => ∃ i : Nat, i ≤ 4 ∧ v = .int .i64 i ∧ wr = w) (fun v _ => 4 - (intOf v).toNat)
  case atStart => exact ⟨0, by omega, rfl, rfl⟩
  case round =>
    obtain ⟨i, hi, rfl, rfl⟩ := hrel
    rcases (by omega : i = 0 ∨ i = 1 ∨ i = 2 ∨ i = 3 ∨ i = 4) with rfl | rfl | rfl | rfl | rfl
    · go_wp2
      go_roundw
      case rel => exact ⟨1, by omega, by go_num, by first | rfl | trivial⟩
      case measure => simp [intOf]
    · go_wp2
      go_roundw
      case rel => exact ⟨2, by omega, by go_num, by first | rfl | trivial⟩
      case measure => simp [intOf]
    · go_wp2
      go_roundw
      case rel => exact ⟨3, by omega, by go_num, by first | rfl | trivial⟩
      case measure => simp [intOf]
    · go_wp2
      go_roundw
      case rel => exact ⟨4, by omega, by go_num, by first | rfl | trivial⟩
      case measure => simp [intOf]
    · go_wp2
      rw [Exit.noGoto_ret]
      go_ret
      exact ⟨rfl, Below.refl _ _⟩
set_option maxRecDepth 100000 in
set_option maxHeartbeats 4000000 in
theorem isT_c (t : Tk) (c : Int) (h0 : 0 ≤ c) (h1 : c ≤ 4) (hk : t.kd = kdS c) (hx : t.tx = txS c) (w : World) : Calls Tryd.prog 10 #[t.val, .int .u8 c] w (Gv (.bool true) w) := by
  obtain ⟨ch, x, lo, pl, uo, kd, ws⟩ := t
  dsimp only at hk hx
  subst hk hx
  have C6 := Lib.hid (fun w => tok_c c 0 w h0 h1)
  have e5 : (zk c 0).val = .agg #[.pointer none, .string (txS c), .int .i32 0, .int .u32 0, .int .u16 0, .int .u8 (kdS c), .int .u8 0] := rfl
  simp only [e5] at C6
  clear e5
  generalize kdS c = kd at *
  generalize txS c = x at *
  go_enter Tryd.func10, Tryd.ntmps10
  go_upto_region 1 with fail
  refine wp_gen (fun W1 hW => ?_)
  have hb : Below w.heap.size w W1 := by rw [hW]; exact ba _ _
  have d1 : W1.cell? ⟨w.heap.size, 1, none⟩ = some (.string x) := by rw [hW]; simp [go_sem]
  have d5 : W1.cell? ⟨w.heap.size, 5, none⟩ = some (.int .u8 kd) := by rw [hW]; simp [go_sem]
  clear hW
  go_upto_region 2 with (go_at_call 6; (with_reducible refine (C6.out _).mono ?_); rintro e w5 ⟨rfl, hb5⟩; have D1 := ac hb5 d1; have D5 := ac hb5 d5; have hb2 := hb.trans (hb5.mono hb.size); clear d1 d5 hb5 hb)
  refine wp_gen (fun W2 hW => ?_)
  have hb3 : Below w.heap.size w W2 := by rw [hW]; exact hb2.trans ((ba _ _).mono hb2.size)
  have e1 : W2.cell? ⟨w.heap.size, 1, none⟩ = some (.string x) := by rw [hW]; exact al D1 _
  have e5 : W2.cell? ⟨w.heap.size, 5, none⟩ = some (.int .u8 kd) := by rw [hW]; exact al D5 _
  have f1 : W2.cell? ⟨w5.heap.size, 1, none⟩ = some (.string x) := by rw [hW]; simp [go_sem]
  have f5 : W2.cell? ⟨w5.heap.size, 5, none⟩ = some (.int .u8 kd) := by rw [hW]; simp [go_sem]
  clear hW D1 D5 hb2
  generalize w5.heap.size = P at *
  go_wp2
  go_ret
  exact ⟨by simp, hb3⟩
end Go.Proofs.YtgijoikmggjopaaDoor
