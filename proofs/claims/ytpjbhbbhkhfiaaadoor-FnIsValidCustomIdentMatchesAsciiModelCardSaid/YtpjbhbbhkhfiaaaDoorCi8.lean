/- What the listed variables' data give the walk: strings.ToLower, the reserved words' map. -/
import Derived.Test.YtpjbhbbhkhfiaaaDoorCi7
import Derived.Test.YtpjbhbbhkhfiaaaDoorSh
import Derived.Lib.LaidCaseMet
import Derived.Lib.LaidU8
import Derived.PinnedBridge
import Derived.LaidMore
import Derived.MakeChecks
import Derived.Lay
import Derived.WideKeyElems2
import Derived.WideKeyArgs
set_option linter.unusedVariables false
set_option linter.unusedSimpArgs false
namespace Go.Proofs.YtpjbhbbhkhfiaaaDoor
open Go.ChangeShapes Go.WideShapes Go.ChangeAt Go.RowKit Go.Shelf
set_option maxRecDepth 100000
abbrev laidL : List (String × DataW Unit) := Rows.fnIsValidCustomIdentMatchesAsciiModelRow.laid
theorem accept_eq : Rows.laid_unicode_utf8_acceptRanges (H := Unit) = Lib.acceptData := by kernel_rfl
theorem caseX : CaseExtra Tryd.prog Tryd.lays159_ren := ⟨by kernel_rfl, by kernel_rfl, by kernel_rfl, by kernel_rfl, by kernel_rfl, by kernel_rfl⟩
theorem u8X : U8Extra Tryd.prog Tryd.lays159_ren := ⟨by kernel_rfl, by kernel_rfl, by kernel_rfl, by kernel_rfl, by kernel_rfl, by kernel_rfl, by kernel_rfl⟩
abbrev mapD6 : DataW Unit := Rows.laid_github_com_evanw_esbuild_internal_css_parser_cssWideAndReservedKeywords
abbrev nMap : String := "github.com/evanw/esbuild/internal/css_parser.cssWideAndReservedKeywords"
theorem laid_plain {W : World} (h : laidMetH Tryd.prog laidL W) : laidMet Tryd.prog [("unicode/utf8.acceptRanges", Lib.acceptData), (nMap, mapD6), ("unicode.CaseRanges", Lib.caseData), ("unicode/utf8.first", Lib.firstData)] W := by
  rw [MakeChecks.laidMetH_plain _ _ _ (by kernel_rfl)] at h
  have h2 : laidMet Tryd.prog [("unicode/utf8.acceptRanges", Rows.laid_unicode_utf8_acceptRanges), (nMap, mapD6), ("unicode.CaseRanges", Go.Pinned.caseRanges), ("unicode/utf8.first", Go.Pinned.utf8First)] W := h
  rw [accept_eq, Pinned.caseRanges_eq, Pinned.utf8First_eq] at h2
  exact h2
theorem low_of {W : World} (h : laidMetH Tryd.prog laidL W) : Low lowS W := by
  have h2 := laid_plain h
  have hC : Go.Lib.CaseVar (Tryd.lays159_ren.g 13) Go.Lib.caseA W := caseVar_of_reads { Tryd.lays159 with } Tryd.lays159.t206 caseX (Lib.laidMet.reads h2 (.tail _ (.tail _ (.head _))))
  have hU : Lib.Utf8Tabs (Tryd.lays159_ren.g 3) (Tryd.lays159_ren.g 4) W := utf8Tabs_of_reads { Tryd.lays159 with } u8X (Lib.laidMet.reads h2 (.tail _ (.tail _ (.tail _ (.head _))))) (Lib.laidMet.reads h2 (.head _))
  intro s w' hs hb
  exact Tryd.strings_ToLower_any s w' (by omega) (Go.Lib.CaseVar_below hC hb) ⟨fun c hc => ac hb (hU.1 c hc), fun i hi => ⟨ac hb (hU.2 i hi).1, ac hb (hU.2 i hi).2⟩⟩
theorem gMap : Tryd.prog.globalNamed nMap = some 0 := by kernel_rfl
theorem tMap : (Tryd.prog.globals[0]?).map (·.type) = some 47 := by kernel_rfl
abbrev rw0 : List UInt8 := [100, 101, 102, 97, 117, 108, 116]
abbrev rw1 : List UInt8 := [105, 110, 104, 101, 114, 105, 116]
abbrev rw2 : List UInt8 := [105, 110, 105, 116, 105, 97, 108]
abbrev rw3 : List UInt8 := [114, 101, 118, 101, 114, 116]
abbrev rw4 : List UInt8 := [114, 101, 118, 101, 114, 116, 45, 108, 97, 121, 101, 114]
abbrev rw5 : List UInt8 := [117, 110, 115, 101, 116]
def resM (L : ByteArray) : Bool := (L.toList == rw0) || (L.toList == rw1) || (L.toList == rw2) || (L.toList == rw3) || (L.toList == rw4) || (L.toList == rw5)
theorem resM_eq : resM = cssW := by
  funext L
  unfold resM cssW
  cases (L.toList == rw0) <;> cases (L.toList == rw1) <;> cases (L.toList == rw2) <;> cases (L.toList == rw3) <;> cases (L.toList == rw4) <;> cases (L.toList == rw5) <;> rfl
abbrev slit (s : ByteArray) : Lit := .string s.data.toList
theorem slit_key {s : ByteArray} (hs : s.size ≤ maxLen) : keyOf Tryd.prog 9 (.string s) = some (slit s) := Go.WideMaps.keyOf_string_mk Tryd.underlying9 hs
theorem at6 (s : ByteArray) (z : DataW Unit) : mapD6.atKey (slit s) z = if resM s = true then .lit (.bool true) else z := by
  have hk : ∀ w : List UInt8, (Lit.string w).sameKey (slit s) = (s.toList == w) := fun w => by
    show (w == s.data.toList) = _
    rw [ByteArray.toList_eq, Bool.beq_comm]
  unfold resM
  have hu : ∀ l : List (Lit × DataW Unit), (DataW.map l).atKey (slit s) z = match l.find? (fun p => p.1.sameKey (slit s)) with | some p => p.2 | none => z := fun l => by simp only [DataW.atKey]; cases List.find? (fun p : Lit × DataW Unit => p.1.sameKey (slit s)) l <;> rfl
  unfold mapD6 Rows.laid_github_com_evanw_esbuild_internal_css_parser_cssWideAndReservedKeywords
  rw [hu]
  simp only [List.find?, hk]
  cases (s.toList == rw0) <;> cases (s.toList == rw1) <;> cases (s.toList == rw2) <;> cases (s.toList == rw3) <;> cases (s.toList == rw4) <;> cases (s.toList == rw5) <;> rfl
theorem elemAt_bool {W : World} {base : Nat} {held : Bool} {sp : Nat → Bool} {n : Nat} {v : Value} {z : DataW Unit × List MemPlace} (h : WideElems.elemAt (fun _ => ()) Tryd.prog W base sp held n 4 v = some z) : ∃ b, v = .bool b ∧ z = (.lit (.bool b), []) := by
  unfold WideElems.elemAt at h
  split at h
  · rename_i hf
    obtain ⟨b, hc, hz⟩ := DataW.trod_bool Tryd.underlying4 h
    cases v <;> simp [Value.formed, Tryd.underlying4, Value.cells] at hf hc
    subst hc
    exact ⟨_, rfl, hz⟩
  · cases h
theorem res_of {W : World} (h : laidMetH Tryd.prog laidL W) : Res resM W := by
  obtain ⟨g, t, cs, fuel, p, h1, h2, h3, h4⟩ := Lib.laidMet.reads (laid_plain h) (n := nMap) (d := mapD6) (.tail _ (.head _))
  obtain rfl := Option.some.inj (gMap.symm.trans h1)
  obtain rfl := Option.some.inj (tMap.symm.trans h2)
  rcases WideElems.open_map Tryd.underlying47 h4 with ⟨_, hx⟩ | ⟨bm, es, clock, m, -, hcs, hb, _, F, hx⟩
  · exact absurd (congrArg Prod.fst hx) (by intro e; cases e)
  · simp only [Prod.mk.injEq] at hx
    have hcell : W.cell? ⟨0, 0, none⟩ = some (.map (some bm)) := by
      have := World.var?_cell h1 h3 0
      rw [Array.eq_one_of_toList hcs] at this
      simpa using this
    refine ⟨bm, es, clock, hcell, hb, fun s W' hs hb' => ?_⟩
    have zero : (zeroValue 4).run Tryd.prog W' = .ok (.bool false) W' := by kernel_rfl
    rcases WideElems.fit_lookup (w := W') (WideMaps.string_law Tryd.underlying9) Tryd.underlying47 zero hb' F (slit_key hs) with ⟨hrun, hat⟩ | ⟨v, y, hrun, hRv, hat, _⟩
    · have := hat (.lit (.bool false))
      rw [← hx.1, at6] at this
      by_cases hr : resM s = true
      · rw [if_pos hr] at this; cases this
      · rw [hrun]; simp at hr; rw [hr]
    · obtain ⟨b, rfl, rfl⟩ := elemAt_bool hRv
      have h1 := hat .nil
      rw [← hx.1, at6] at h1
      by_cases hr : resM s = true
      · rw [if_pos hr] at h1
        rw [hrun, hr]
        injection h1 with h1
        injection h1 with h1
        rw [← h1]
      · rw [if_neg hr] at h1; cases h1
end Go.Proofs.YtpjbhbbhkhfiaaaDoor
