/- FnMangleTransformsIdempotentOnNumbers: words, the tokens' small functions. -/
import Derived.Test.YtoblbakaemglbaaFmtRl
import Derived.Test.YtoblbakaemglbaaFmtSeg
import Derived.Test.YtoblbakaemglbaaFmtMk
import Derived.Test.YtoblbakaemglbaaFmtArg
import Derived.Deep.DeepCutAuto
import Derived.WalkSpells
import Derived.Lib.SliceRun
set_option linter.unusedVariables false
set_option linter.unusedSimpArgs false
namespace Go.Proofs.YtoblbakaemglbaaFmt
open Go.RowKit
/-- a number or a comma -/
structure Tq where
  tx : ByteArray
  kd : Int
  ws : Int
abbrev Tq.L (t : Tq) : List Value := [.pointer none, .string t.tx, .int .i32 0, .int .u32 0, .int .u16 0, .int .u8 t.kd, .int .u8 t.ws]
def isZ (t : Tq) : Bool := t.kd == 30 && t.tx.toList == [48]
def isO (t : Tq) : Bool := t.kd == 30 && t.tx.toList == [49]
def same (a b : Tq) : Bool := a.kd == b.kd && a.tx.toList == b.tx.toList
/-- a call that answers v and makes memory only -/
def Gv (v : Value) (w : World) (e : Ending) (w' : World) : Prop := e = .returned v ∧ Below w.heap.size w w'
set_option maxRecDepth 100000 in
set_option maxHeartbeats 4000000 in
theorem isZ_c (t : Tq) (w : World) : Calls Tryf.prog 15 #[.agg t.L.toArray] w (Gv (.bool (isZ t)) w) := by
  obtain ⟨tx, kd, ws⟩ := t
  by_cases hk : kd = 30
  · subst hk
    go_enter Tryf.func15, Tryf.ntmps15
    go_wp2
    go_ret
    exact ⟨by simp [isZ], ba _ _⟩
  · have hk' : (kd == 30) = false := by simpa using hk
    go_enter Tryf.func15, Tryf.ntmps15
    go_wp2
    go_ret
    exact ⟨by simp [isZ, hk'], ba _ _⟩
set_option maxRecDepth 100000 in
set_option maxHeartbeats 4000000 in
theorem isO_c (t : Tq) (w : World) : Calls Tryf.prog 17 #[.agg t.L.toArray] w (Gv (.bool (isO t)) w) := by
  obtain ⟨tx, kd, ws⟩ := t
  by_cases hk : kd = 30
  · subst hk
    go_enter Tryf.func17, Tryf.ntmps17
    go_wp2
    go_ret
    exact ⟨by simp [isO], ba _ _⟩
  · have hk' : (kd == 30) = false := by simpa using hk
    go_enter Tryf.func17, Tryf.ntmps17
    go_wp2
    go_ret
    exact ⟨by simp [isO, hk'], ba _ _⟩
set_option maxRecDepth 100000 in
set_option maxHeartbeats 4000000 in
theorem same_c (a b : Tq) (w : World) : Calls Tryf.prog 16 #[.agg a.L.toArray, .agg b.L.toArray] w (Gv (.bool (same a b)) w) := by
  obtain ⟨tx, kd, ws⟩ := a
  obtain ⟨tx', kd', ws'⟩ := b
  by_cases hk : kd = kd'
  · subst hk
    by_cases ht : tx.toList = tx'.toList
    · have ht' : (tx.toList == tx'.toList) = true := by simpa using ht
      go_enter Tryf.func16, Tryf.ntmps16
      go_wp2
      go_ret
      exact ⟨by simp [same, ht'], (ba _ _).alloc (by simp) _⟩
    · have ht' : (tx.toList == tx'.toList) = false := by simpa using ht
      go_enter Tryf.func16, Tryf.ntmps16
      go_wp2
      go_ret
      exact ⟨by simp [same, ht'], (ba _ _).alloc (by simp) _⟩
  · have hk' : (kd == kd') = false := by simpa using hk
    go_enter Tryf.func16, Tryf.ntmps16
    go_wp2
    go_ret
    exact ⟨by simp [same, hk'], (ba _ _).alloc (by simp) _⟩
set_option maxRecDepth 100000 in
set_option maxHeartbeats 4000000 in
theorem tlen_c (T o : Nat) (w : World) (h : w.cell? ⟨T, o + 5, none⟩ = some (.int .u8 30)) : Calls Tryf.prog 20 #[.pointer (some ⟨T, o, none⟩)] w (Gv (.bool false) w) := by
  go_enter Tryf.func20, Tryf.ntmps20
  go_wp2
  go_ret
  exact ⟨rfl, Below.refl _ _⟩
set_option maxRecDepth 100000 in
set_option maxHeartbeats 4000000 in
theorem tlp_c (T o : Nat) (w : World) (h : w.cell? ⟨T, o + 5, none⟩ = some (.int .u8 30)) : Calls Tryf.prog 18 #[.pointer (some ⟨T, o, none⟩)] w (Gv (.bool false) w) := by
  have C20 := Lib.hid (tlen_c T o w h)
  go_enter Tryf.func18, Tryf.ntmps18
  go_wp2_with (go_at_call 20; (with_reducible refine C20.out.mono ?_); rintro e w2 ⟨rfl, b2⟩; replace b2 := Lib.hid b2)
  go_ret
  exact ⟨rfl, b2.out⟩
set_option maxRecDepth 100000 in
set_option maxHeartbeats 4000000 in
theorem tpc_c (T o : Nat) (w : World) (h : w.cell? ⟨T, o + 5, none⟩ = some (.int .u8 30)) : Calls Tryf.prog 19 #[.pointer (some ⟨T, o, none⟩)] w (Gv (.tuple #[]) w) := by
  go_enter Tryf.func19, Tryf.ntmps19
  go_wp2
  refine bodyPost_end (results_none rfl _ _ _) rfl ?_
  exact ⟨rfl, Below.refl _ _⟩
end Go.Proofs.YtoblbakaemglbaaFmt
