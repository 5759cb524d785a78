/- zzReserved walked; the law's own folding against strings.ToLower's. -/
import Derived.Test.YtlmnnejfcieddaaDoorSy5
import Derived.Lib.MapU
import Derived.Lib.CaseU
set_option linter.unusedVariables false
set_option linter.unusedSimpArgs false
namespace Go.Proofs.YtlmnnejfcieddaaDoor
open Go.RowKit
abbrev wd0 : List UInt8 := [110, 111, 110, 101]
abbrev wd1 : List UInt8 := [105, 110, 105, 116, 105, 97, 108]
abbrev wd2 : List UInt8 := [105, 110, 104, 101, 114, 105, 116]
abbrev wd3 : List UInt8 := [117, 110, 115, 101, 116]
abbrev wd4 : List UInt8 := [100, 101, 102, 97, 117, 108, 116]
abbrev wd5 : List UInt8 := [114, 101, 118, 101, 114, 116]
abbrev wd6 : List UInt8 := [114, 101, 118, 101, 114, 116, 45, 108, 97, 121, 101, 114]
def isW (L : ByteArray) : Bool := (L.toList == wd0) || (L.toList == wd1) || (L.toList == wd2) || (L.toList == wd3) || (L.toList == wd4) || (L.toList == wd5) || (L.toList == wd6)
/-- is the text reserved, as the law's own check has it? -/
def resF (s : ByteArray) : Bool := match foldD (bl s) with
  | some x => isW (strOfNums x)
  | none => false
set_option maxRecDepth 100000 in
theorem res21_c (s : ByteArray) (w : World) (hs : s.size ≤ 1048576) : Calls Tryd.prog 21 #[.string s] w (fun e w' => e = .returned (.bool (resF s)) ∧ Below w.heap.size w w') := by
  have C := fold28_c s w hs
  unfold FoldB at C
  unfold resF
  cases hf : foldD (bl s) with
  | none =>
    rw [hf] at C
    replace C := Lib.hid C
    go_enter Tryd.func21, Tryd.ntmps21
    go_wp2_with (go_at_call 28; (with_reducible refine C.out.mono ?_); rintro e w1 ⟨rfl, hb⟩; replace hb := Lib.hid hb)
    go_ret
    exact ⟨rfl, hb.out⟩
  | some x =>
    rw [hf] at C
    simp only [Option.isSome_some] at C
    dsimp only
    generalize strOfNums x = X at C ⊢
    replace C := Lib.hid C
    cases h0 : (X.toList == wd0) with
    | true =>
      go_enter Tryd.func21, Tryd.ntmps21
      go_wp2_with (go_at_call 28; (with_reducible refine C.out.mono ?_); rintro e w1 ⟨rfl, hb⟩; replace hb := Lib.hid hb)
      go_ret
      exact ⟨by have e : isW X = true := (by simp [isW, h0]); rw [e]; rfl, hb.out⟩
    | false =>
      cases h1 : (X.toList == wd1) with
      | true =>
        go_enter Tryd.func21, Tryd.ntmps21
        go_wp2_with (go_at_call 28; (with_reducible refine C.out.mono ?_); rintro e w1 ⟨rfl, hb⟩; replace hb := Lib.hid hb)
        go_ret
        exact ⟨by have e : isW X = true := (by simp [isW, h0, h1]); rw [e]; rfl, hb.out⟩
      | false =>
        cases h2 : (X.toList == wd2) with
        | true =>
          go_enter Tryd.func21, Tryd.ntmps21
          go_wp2_with (go_at_call 28; (with_reducible refine C.out.mono ?_); rintro e w1 ⟨rfl, hb⟩; replace hb := Lib.hid hb)
          go_ret
          exact ⟨by have e : isW X = true := (by simp [isW, h0, h1, h2]); rw [e]; rfl, hb.out⟩
        | false =>
          cases h3 : (X.toList == wd3) with
          | true =>
            go_enter Tryd.func21, Tryd.ntmps21
            go_wp2_with (go_at_call 28; (with_reducible refine C.out.mono ?_); rintro e w1 ⟨rfl, hb⟩; replace hb := Lib.hid hb)
            go_ret
            exact ⟨by have e : isW X = true := (by simp [isW, h0, h1, h2, h3]); rw [e]; rfl, hb.out⟩
          | false =>
            cases h4 : (X.toList == wd4) with
            | true =>
              go_enter Tryd.func21, Tryd.ntmps21
              go_wp2_with (go_at_call 28; (with_reducible refine C.out.mono ?_); rintro e w1 ⟨rfl, hb⟩; replace hb := Lib.hid hb)
              go_ret
              exact ⟨by have e : isW X = true := (by simp [isW, h0, h1, h2, h3, h4]); rw [e]; rfl, hb.out⟩
            | false =>
              cases h5 : (X.toList == wd5) with
              | true =>
                go_enter Tryd.func21, Tryd.ntmps21
                go_wp2_with (go_at_call 28; (with_reducible refine C.out.mono ?_); rintro e w1 ⟨rfl, hb⟩; replace hb := Lib.hid hb)
                go_ret
                exact ⟨by have e : isW X = true := (by simp [isW, h0, h1, h2, h3, h4, h5]); rw [e]; rfl, hb.out⟩
              | false =>
                cases h6 : (X.toList == wd6) with
                | true =>
                  go_enter Tryd.func21, Tryd.ntmps21
                  go_wp2_with (go_at_call 28; (with_reducible refine C.out.mono ?_); rintro e w1 ⟨rfl, hb⟩; replace hb := Lib.hid hb)
                  go_ret
                  exact ⟨by have e : isW X = true := (by simp [isW, h0, h1, h2, h3, h4, h5, h6]); rw [e]; rfl, hb.out⟩
                | false =>
                  go_enter Tryd.func21, Tryd.ntmps21
                  go_wp2_with (go_at_call 28; (with_reducible refine C.out.mono ?_); rintro e w1 ⟨rfl, hb⟩; replace hb := Lib.hid hb)
                  go_ret
                  exact ⟨by have e : isW X = false := (by simp [isW, h0, h1, h2, h3, h4, h5, h6]); rw [e]; rfl, hb.out⟩
end Go.Proofs.YtlmnnejfcieddaaDoor
