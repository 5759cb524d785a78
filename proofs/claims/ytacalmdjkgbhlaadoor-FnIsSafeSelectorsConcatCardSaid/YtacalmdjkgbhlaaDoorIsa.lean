/- FnIsSafeSelectorsConcat: what the listed map gives the walk. -/
import Derived.Test.YtacalmdjkgbhlaaDoorIs9
import Derived.LaidMore
import Derived.MakeChecks
import Derived.Lay
import Derived.Lib.LaidIn
import Derived.Lib.LaidCaseMet
import Derived.WideKeyElems2
import Derived.WideKeyArgs
set_option linter.unusedVariables false
set_option linter.unusedSimpArgs false
namespace Go.Proofs.YtacalmdjkgbhlaaDoor
open Go.ChangeShapes Go.WideShapes Go.ChangeAt Go.RowKit
set_option maxRecDepth 100000
abbrev laidL : List (String × DataW Unit) := Rows.fnIsSafeSelectorsConcatRow.laid
abbrev nMap : String := "github.com/evanw/esbuild/internal/css_parser.nonDeprecatedElementsSupportedByIE7"
abbrev wEnt (w : List UInt8) : Lit × DataW Unit := (.string w, .lit (.bool true))
def ws0 : List (List UInt8) := [[97], [97, 98, 98, 114], [97, 100, 100, 114, 101, 115, 115], [97, 114, 101, 97], [98], [98, 97, 115, 101], [98, 108, 111, 99, 107, 113, 117, 111, 116, 101], [98, 111, 100, 121], [98, 114], [98, 117, 116, 116, 111, 110], [99, 97, 112, 116, 105, 111, 110], [99, 105, 116, 101], [99, 111, 100, 101], [99, 111, 108], [99, 111, 108, 103, 114, 111, 117, 112], [100, 100], [100, 101, 108], [100, 102, 110], [100, 105, 118], [100, 108], [100, 116], [101, 109], [101, 109, 98, 101, 100], [102, 105, 101, 108, 100, 115, 101, 116], [102, 111, 114, 109], [104, 49], [104, 50], [104, 51], [104, 52], [104, 53], [104, 54], [104, 101, 97, 100], [104, 114], [104, 116, 109, 108], [105], [105, 102, 114, 97, 109, 101], [105, 109, 103], [105, 110, 112, 117, 116], [105, 110, 115], [107, 98, 100], [108, 97, 98, 101, 108], [108, 101, 103, 101, 110, 100], [108, 105], [108, 105, 110, 107], [109, 97, 112], [109, 101, 110, 117], [109, 101, 116, 97], [110, 111, 115, 99, 114, 105, 112, 116], [111, 98, 106, 101, 99, 116], [111, 108], [111, 112, 116, 103, 114, 111, 117, 112], [111, 112, 116, 105, 111, 110], [112], [112, 97, 114, 97, 109], [112, 114, 101], [113], [114, 117, 98, 121], [115], [115, 97, 109, 112], [115, 99, 114, 105, 112, 116], [115, 101, 108, 101, 99, 116], [115, 109, 97, 108, 108], [115, 112, 97, 110], [115, 116, 114, 111, 110, 103], [115, 116, 121, 108, 101], [115, 117, 98], [115, 117, 112], [116, 97, 98, 108, 101], [116, 98, 111, 100, 121], [116, 100], [116, 101, 120, 116, 97, 114, 101, 97], [116, 102, 111, 111, 116], [116, 104], [116, 104, 101, 97, 100], [116, 105, 116, 108, 101], [116, 114], [117], [117, 108], [118, 97, 114]]
def anyW (ws : List (List UInt8)) (s : ByteArray) : Bool := ws.any fun w => s.toList == w
theorem d0 : Rows.laid_github_com_evanw_esbuild_internal_css_parser_nonDeprecatedElementsSupportedByIE7 (H := Unit) = DataW.map (ws0.map wEnt) := rfl
theorem laid_plain {W : World} (h : laidMetH Tryd.prog laidL W) : laidMet Tryd.prog [(nMap, DataW.map (ws0.map wEnt))] W := by
  rw [MakeChecks.laidMetH_plain _ _ _ (by kernel_rfl)] at h
  have h2 : laidMet Tryd.prog [(nMap, Rows.laid_github_com_evanw_esbuild_internal_css_parser_nonDeprecatedElementsSupportedByIE7)] W := h
  rw [d0] at h2
  exact h2
theorem gMap : Tryd.prog.globalNamed nMap = some 0 := by kernel_rfl
theorem tMap : (Tryd.prog.globals[0]?).map (·.type) = some 56 := by kernel_rfl
abbrev slit (s : ByteArray) : Lit := .string s.data.toList
theorem slit_key {s : ByteArray} (hs : s.size ≤ maxLen) : keyOf Tryd.prog 9 (.string s) = some (slit s) := Go.WideMaps.keyOf_string_mk Tryd.underlying9 hs
theorem at_words (ws : List (List UInt8)) (s : ByteArray) (z : DataW Unit) : (DataW.map (ws.map wEnt)).atKey (slit s) z = if anyW ws s = true then .lit (.bool true) else z := by
  have hk : ∀ w : List UInt8, (Lit.string w).sameKey (slit s) = (s.toList == w) := fun w => by
    show (w == s.data.toList) = _
    rw [ByteArray.toList_eq, Bool.beq_comm]
  have hu : ∀ l : List (Lit × DataW Unit), (DataW.map l).atKey (slit s) z = match l.find? (fun p => p.1.sameKey (slit s)) with | some p => p.2 | none => z := fun l => by simp only [DataW.atKey]; cases List.find? (fun p : Lit × DataW Unit => p.1.sameKey (slit s)) l <;> rfl
  rw [hu]
  induction ws with
  | nil => rfl
  | cons w ws ih =>
    have ha : anyW (w :: ws) s = ((s.toList == w) || anyW ws s) := rfl
    simp only [List.map_cons, List.find?, hk]
    rw [ha]
    cases (s.toList == w) with
    | true => rfl
    | false => rw [Bool.false_or]; exact ih
theorem elemAt_bool {W : World} {base : Nat} {held : Bool} {sp : Nat → Bool} {n : Nat} {v : Value} {z : DataW Unit × List MemPlace} (h : WideElems.elemAt (fun _ => ()) Tryd.prog W base sp held n 4 v = some z) : ∃ b, v = .bool b ∧ z = (.lit (.bool b), []) := by
  unfold WideElems.elemAt at h
  split at h
  · rename_i hf
    obtain ⟨b, hc, hz⟩ := DataW.trod_bool Tryd.underlying4 h
    cases v <;> simp [Value.formed, Tryd.underlying4, Value.cells] at hf hc
    subst hc
    exact ⟨_, rfl, hz⟩
  · cases h
theorem res_of {W : World} (h : laidMetH Tryd.prog laidL W) : Res (anyW ws0) W := by
  obtain ⟨g, t, cs, fuel, p, h1, h2, h3, h4⟩ := Lib.laidMet.reads (laid_plain h) (n := nMap) (d := DataW.map (ws0.map wEnt)) (.head _)
  obtain rfl := Option.some.inj (gMap.symm.trans h1)
  obtain rfl := Option.some.inj (tMap.symm.trans h2)
  rcases WideElems.open_map Tryd.underlying56 h4 with ⟨_, hx⟩ | ⟨bm, es, clock, m, -, hcs, hb, _, F, hx⟩
  · exact absurd (congrArg Prod.fst hx) (by intro e; cases e)
  · simp only [Prod.mk.injEq] at hx
    have hcell : W.cell? ⟨0, 0, none⟩ = some (.map (some bm)) := by
      have := World.var?_cell h1 h3 0
      rw [Array.eq_one_of_toList hcs] at this
      simpa using this
    refine ⟨bm, es, clock, hcell, hb, fun s W' hs hb' => ?_⟩
    have zero : (zeroValue 4).run Tryd.prog W' = .ok (.bool false) W' := by kernel_rfl
    rcases WideElems.fit_lookup (w := W') (WideMaps.string_law Tryd.underlying9) Tryd.underlying56 zero hb' F (slit_key hs) with ⟨hrun, hat⟩ | ⟨v, y, hrun, hRv, hat, _⟩
    · have := hat (.lit (.bool false))
      rw [← hx.1, at_words] at this
      by_cases hr : anyW ws0 s = true
      · rw [if_pos hr] at this; cases this
      · rw [hrun]; simp at hr; rw [hr]
    · obtain ⟨b, rfl, rfl⟩ := elemAt_bool hRv
      have h1 := hat .nil
      rw [← hx.1, at_words] at h1
      by_cases hr : anyW ws0 s = true
      · rw [if_pos hr] at h1
        rw [hrun, hr]
        injection h1 with h1
        injection h1 with h1
        rw [← h1]
      · rw [if_neg hr] at h1; cases h1
/-- the settled world with one block more (the map), its variable laid -/
noncomputable def mapW (os : Go.Os) : World :=
  let w0 := World.holding Tryd.prog os ⟨#[], #[], []⟩
  let h := w0.heap.modify 0 fun
    | .cells _ t frozen => .cells #[.map (some w0.heap.size)] t frozen
    | o => o
  { w0 with heap := h.push (.map #[⟨.string ⟨#[97]⟩, .bool true, 0⟩, ⟨.string ⟨#[97, 98, 98, 114]⟩, .bool true, 1⟩, ⟨.string ⟨#[97, 100, 100, 114, 101, 115, 115]⟩, .bool true, 2⟩, ⟨.string ⟨#[97, 114, 101, 97]⟩, .bool true, 3⟩, ⟨.string ⟨#[98]⟩, .bool true, 4⟩, ⟨.string ⟨#[98, 97, 115, 101]⟩, .bool true, 5⟩, ⟨.string ⟨#[98, 108, 111, 99, 107, 113, 117, 111, 116, 101]⟩, .bool true, 6⟩, ⟨.string ⟨#[98, 111, 100, 121]⟩, .bool true, 7⟩, ⟨.string ⟨#[98, 114]⟩, .bool true, 8⟩, ⟨.string ⟨#[98, 117, 116, 116, 111, 110]⟩, .bool true, 9⟩, ⟨.string ⟨#[99, 97, 112, 116, 105, 111, 110]⟩, .bool true, 10⟩, ⟨.string ⟨#[99, 105, 116, 101]⟩, .bool true, 11⟩, ⟨.string ⟨#[99, 111, 100, 101]⟩, .bool true, 12⟩, ⟨.string ⟨#[99, 111, 108]⟩, .bool true, 13⟩, ⟨.string ⟨#[99, 111, 108, 103, 114, 111, 117, 112]⟩, .bool true, 14⟩, ⟨.string ⟨#[100, 100]⟩, .bool true, 15⟩, ⟨.string ⟨#[100, 101, 108]⟩, .bool true, 16⟩, ⟨.string ⟨#[100, 102, 110]⟩, .bool true, 17⟩, ⟨.string ⟨#[100, 105, 118]⟩, .bool true, 18⟩, ⟨.string ⟨#[100, 108]⟩, .bool true, 19⟩, ⟨.string ⟨#[100, 116]⟩, .bool true, 20⟩, ⟨.string ⟨#[101, 109]⟩, .bool true, 21⟩, ⟨.string ⟨#[101, 109, 98, 101, 100]⟩, .bool true, 22⟩, ⟨.string ⟨#[102, 105, 101, 108, 100, 115, 101, 116]⟩, .bool true, 23⟩, ⟨.string ⟨#[102, 111, 114, 109]⟩, .bool true, 24⟩, ⟨.string ⟨#[104, 49]⟩, .bool true, 25⟩, ⟨.string ⟨#[104, 50]⟩, .bool true, 26⟩, ⟨.string ⟨#[104, 51]⟩, .bool true, 27⟩, ⟨.string ⟨#[104, 52]⟩, .bool true, 28⟩, ⟨.string ⟨#[104, 53]⟩, .bool true, 29⟩, ⟨.string ⟨#[104, 54]⟩, .bool true, 30⟩, ⟨.string ⟨#[104, 101, 97, 100]⟩, .bool true, 31⟩, ⟨.string ⟨#[104, 114]⟩, .bool true, 32⟩, ⟨.string ⟨#[104, 116, 109, 108]⟩, .bool true, 33⟩, ⟨.string ⟨#[105]⟩, .bool true, 34⟩, ⟨.string ⟨#[105, 102, 114, 97, 109, 101]⟩, .bool true, 35⟩, ⟨.string ⟨#[105, 109, 103]⟩, .bool true, 36⟩, ⟨.string ⟨#[105, 110, 112, 117, 116]⟩, .bool true, 37⟩, ⟨.string ⟨#[105, 110, 115]⟩, .bool true, 38⟩, ⟨.string ⟨#[107, 98, 100]⟩, .bool true, 39⟩, ⟨.string ⟨#[108, 97, 98, 101, 108]⟩, .bool true, 40⟩, ⟨.string ⟨#[108, 101, 103, 101, 110, 100]⟩, .bool true, 41⟩, ⟨.string ⟨#[108, 105]⟩, .bool true, 42⟩, ⟨.string ⟨#[108, 105, 110, 107]⟩, .bool true, 43⟩, ⟨.string ⟨#[109, 97, 112]⟩, .bool true, 44⟩, ⟨.string ⟨#[109, 101, 110, 117]⟩, .bool true, 45⟩, ⟨.string ⟨#[109, 101, 116, 97]⟩, .bool true, 46⟩, ⟨.string ⟨#[110, 111, 115, 99, 114, 105, 112, 116]⟩, .bool true, 47⟩, ⟨.string ⟨#[111, 98, 106, 101, 99, 116]⟩, .bool true, 48⟩, ⟨.string ⟨#[111, 108]⟩, .bool true, 49⟩, ⟨.string ⟨#[111, 112, 116, 103, 114, 111, 117, 112]⟩, .bool true, 50⟩, ⟨.string ⟨#[111, 112, 116, 105, 111, 110]⟩, .bool true, 51⟩, ⟨.string ⟨#[112]⟩, .bool true, 52⟩, ⟨.string ⟨#[112, 97, 114, 97, 109]⟩, .bool true, 53⟩, ⟨.string ⟨#[112, 114, 101]⟩, .bool true, 54⟩, ⟨.string ⟨#[113]⟩, .bool true, 55⟩, ⟨.string ⟨#[114, 117, 98, 121]⟩, .bool true, 56⟩, ⟨.string ⟨#[115]⟩, .bool true, 57⟩, ⟨.string ⟨#[115, 97, 109, 112]⟩, .bool true, 58⟩, ⟨.string ⟨#[115, 99, 114, 105, 112, 116]⟩, .bool true, 59⟩, ⟨.string ⟨#[115, 101, 108, 101, 99, 116]⟩, .bool true, 60⟩, ⟨.string ⟨#[115, 109, 97, 108, 108]⟩, .bool true, 61⟩, ⟨.string ⟨#[115, 112, 97, 110]⟩, .bool true, 62⟩, ⟨.string ⟨#[115, 116, 114, 111, 110, 103]⟩, .bool true, 63⟩, ⟨.string ⟨#[115, 116, 121, 108, 101]⟩, .bool true, 64⟩, ⟨.string ⟨#[115, 117, 98]⟩, .bool true, 65⟩, ⟨.string ⟨#[115, 117, 112]⟩, .bool true, 66⟩, ⟨.string ⟨#[116, 97, 98, 108, 101]⟩, .bool true, 67⟩, ⟨.string ⟨#[116, 98, 111, 100, 121]⟩, .bool true, 68⟩, ⟨.string ⟨#[116, 100]⟩, .bool true, 69⟩, ⟨.string ⟨#[116, 101, 120, 116, 97, 114, 101, 97]⟩, .bool true, 70⟩, ⟨.string ⟨#[116, 102, 111, 111, 116]⟩, .bool true, 71⟩, ⟨.string ⟨#[116, 104]⟩, .bool true, 72⟩, ⟨.string ⟨#[116, 104, 101, 97, 100]⟩, .bool true, 73⟩, ⟨.string ⟨#[116, 105, 116, 108, 101]⟩, .bool true, 74⟩, ⟨.string ⟨#[116, 114]⟩, .bool true, 75⟩, ⟨.string ⟨#[117]⟩, .bool true, 76⟩, ⟨.string ⟨#[117, 108]⟩, .bool true, 77⟩, ⟨.string ⟨#[118, 97, 114]⟩, .bool true, 78⟩] 79) }
abbrev great : List String := []
noncomputable def laidW (os : Go.Os) : World := (mapW os).layVars Tryd.prog (laidL.filter fun x => great.contains x.1)
theorem laidW_os (os : Go.Os) : (laidW os).os = os := World.layVars_os _ _ _
theorem laid_met (os : Go.Os) (args : Array Value) : laidMetH Tryd.prog laidL ((laidW os).forCall (fun _ _ => 0) ⟨#[], args, []⟩).memory := by
  rw [MakeChecks.laidMetH_plain _ _ _ (by kernel_rfl)]
  have h : laidMet Tryd.prog laidL (laidW os) :=
    laidMet_layVars (w0 := mapW os) great [0, (World.holding Tryd.prog default ⟨#[], #[], []⟩).heap.size] rfl (by kernel_rfl) (by kernel_rfl)
      (LaidIn.of_run _ 10 (by kernel_rfl) (by kernel_rfl) (by kernel_rfl) (by kernel_rfl))
  exact h.of_heap (by simp [World.memory, World.forCall, Input.heap])
end Go.Proofs.YtacalmdjkgbhlaaDoor
