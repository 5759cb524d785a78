/- What the listed variables' data give the walk. -/
import Derived.Test.YtpjbhbbhkhfiaaaDoorLs9
import Derived.Test.YtpjbhbbhkhfiaaaDoorSh
import Derived.Lib.LaidCaseMet
import Derived.Lib.LaidU8
import Derived.PinnedBridge
import Derived.LaidMore
import Derived.MakeChecks
import Derived.Lay
import Derived.WideKeyElems2
import Derived.WideKeyArgs
set_option linter.unusedVariables false
set_option linter.unusedSimpArgs false
namespace Go.Proofs.YtpjbhbbhkhfiaaaDoor
open Go.ChangeShapes Go.WideShapes Go.ChangeAt Go.RowKit Go.Shelf
set_option maxRecDepth 100000
abbrev laidL : List (String × DataW Unit) := Rows.fnListStyleShorthandExactRow.laid
theorem accept_eq : Rows.laid_unicode_utf8_acceptRanges (H := Unit) = Lib.acceptData := by kernel_rfl
theorem caseX : CaseExtra Tryd.prog Tryd.lays159_ren := ⟨by kernel_rfl, by kernel_rfl, by kernel_rfl, by kernel_rfl, by kernel_rfl, by kernel_rfl⟩
theorem u8X : U8Extra Tryd.prog Tryd.lays159_ren := ⟨by kernel_rfl, by kernel_rfl, by kernel_rfl, by kernel_rfl, by kernel_rfl, by kernel_rfl, by kernel_rfl⟩
abbrev wEnt (w : List UInt8) : Lit × DataW Unit := (.string w, .lit (.bool true))
def ws0 : List (List UInt8) := [[100, 101, 102, 97, 117, 108, 116], [105, 110, 104, 101, 114, 105, 116], [105, 110, 105, 116, 105, 97, 108], [114, 101, 118, 101, 114, 116], [114, 101, 118, 101, 114, 116, 45, 108, 97, 121, 101, 114], [117, 110, 115, 101, 116]]
def ws1 : List (List UInt8) := [[97, 114, 97, 98, 105, 99, 45, 105, 110, 100, 105, 99], [97, 114, 109, 101, 110, 105, 97, 110], [98, 101, 110, 103, 97, 108, 105], [99, 97, 109, 98, 111, 100, 105, 97, 110], [99, 105, 114, 99, 108, 101], [99, 106, 107, 45, 100, 101, 99, 105, 109, 97, 108], [99, 106, 107, 45, 101, 97, 114, 116, 104, 108, 121, 45, 98, 114, 97, 110, 99, 104], [99, 106, 107, 45, 104, 101, 97, 118, 101, 110, 108, 121, 45, 115, 116, 101, 109], [100, 101, 99, 105, 109, 97, 108], [100, 101, 99, 105, 109, 97, 108, 45, 108, 101, 97, 100, 105, 110, 103, 45, 122, 101, 114, 111], [100, 101, 118, 97, 110, 97, 103, 97, 114, 105], [100, 105, 115, 99], [100, 105, 115, 99, 108, 111, 115, 117, 114, 101, 45, 99, 108, 111, 115, 101, 100], [100, 105, 115, 99, 108, 111, 115, 117, 114, 101, 45, 111, 112, 101, 110], [101, 116, 104, 105, 111, 112, 105, 99, 45, 110, 117, 109, 101, 114, 105, 99], [103, 101, 111, 114, 103, 105, 97, 110], [103, 117, 106, 97, 114, 97, 116, 105], [103, 117, 114, 109, 117, 107, 104, 105], [104, 101, 98, 114, 101, 119], [104, 105, 114, 97, 103, 97, 110, 97], [104, 105, 114, 97, 103, 97, 110, 97, 45, 105, 114, 111, 104, 97], [106, 97, 112, 97, 110, 101, 115, 101, 45, 102, 111, 114, 109, 97, 108], [106, 97, 112, 97, 110, 101, 115, 101, 45, 105, 110, 102, 111, 114, 109, 97, 108], [107, 97, 110, 110, 97, 100, 97], [107, 97, 116, 97, 107, 97, 110, 97], [107, 97, 116, 97, 107, 97, 110, 97, 45, 105, 114, 111, 104, 97], [107, 104, 109, 101, 114], [107, 111, 114, 101, 97, 110, 45, 104, 97, 110, 103, 117, 108, 45, 102, 111, 114, 109, 97, 108], [107, 111, 114, 101, 97, 110, 45, 104, 97, 110, 106, 97, 45, 102, 111, 114, 109, 97, 108], [107, 111, 114, 101, 97, 110, 45, 104, 97, 110, 106, 97, 45, 105, 110, 102, 111, 114, 109, 97, 108], [108, 97, 111], [108, 111, 119, 101, 114, 45, 97, 108, 112, 104, 97], [108, 111, 119, 101, 114, 45, 97, 114, 109, 101, 110, 105, 97, 110], [108, 111, 119, 101, 114, 45, 103, 114, 101, 101, 107], [108, 111, 119, 101, 114, 45, 108, 97, 116, 105, 110], [108, 111, 119, 101, 114, 45, 114, 111, 109, 97, 110], [109, 97, 108, 97, 121, 97, 108, 97, 109], [109, 111, 110, 103, 111, 108, 105, 97, 110], [109, 121, 97, 110, 109, 97, 114], [111, 114, 105, 121, 97], [112, 101, 114, 115, 105, 97, 110], [115, 105, 109, 112, 45, 99, 104, 105, 110, 101, 115, 101, 45, 102, 111, 114, 109, 97, 108], [115, 105, 109, 112, 45, 99, 104, 105, 110, 101, 115, 101, 45, 105, 110, 102, 111, 114, 109, 97, 108], [115, 113, 117, 97, 114, 101], [116, 97, 109, 105, 108], [116, 101, 108, 117, 103, 117], [116, 104, 97, 105], [116, 105, 98, 101, 116, 97, 110], [116, 114, 97, 100, 45, 99, 104, 105, 110, 101, 115, 101, 45, 102, 111, 114, 109, 97, 108], [116, 114, 97, 100, 45, 99, 104, 105, 110, 101, 115, 101, 45, 105, 110, 102, 111, 114, 109, 97, 108], [117, 112, 112, 101, 114, 45, 97, 108, 112, 104, 97], [117, 112, 112, 101, 114, 45, 97, 114, 109, 101, 110, 105, 97, 110], [117, 112, 112, 101, 114, 45, 108, 97, 116, 105, 110], [117, 112, 112, 101, 114, 45, 114, 111, 109, 97, 110]]
abbrev nM0 : String := "github.com/evanw/esbuild/internal/css_parser.cssWideAndReservedKeywords"
abbrev nM1 : String := "github.com/evanw/esbuild/internal/css_parser.predefinedCounterStyles"
abbrev nInv : String := "github.com/evanw/esbuild/internal/ast.InvalidRef"
abbrev invD : DataW Unit := Rows.laid_github_com_evanw_esbuild_internal_ast_InvalidRef
theorem d0 : Rows.laid_github_com_evanw_esbuild_internal_css_parser_cssWideAndReservedKeywords (H := Unit) = DataW.map (ws0.map wEnt) := rfl
theorem d1 : Rows.laid_github_com_evanw_esbuild_internal_css_parser_predefinedCounterStyles (H := Unit) = DataW.map (ws1.map wEnt) := rfl
theorem any_same {a b : List (List UInt8)} (h1 : ∀ x ∈ a, x ∈ b) (h2 : ∀ x ∈ b, x ∈ a) (s : ByteArray) : anyW a s = anyW b s := by
  unfold anyW
  rw [Bool.eq_iff_iff, List.any_eq_true, List.any_eq_true]
  exact ⟨fun ⟨x, hx, e⟩ => ⟨x, h1 x hx, e⟩, fun ⟨x, hx, e⟩ => ⟨x, h2 x hx, e⟩⟩
theorem any0 (s : ByteArray) : anyW ws0 s = anyW widW s := any_same (by decide +kernel) (by decide +kernel) s
theorem any1 (s : ByteArray) : anyW ws1 s = anyW preW s := any_same (by decide +kernel) (by decide +kernel) s
theorem laid_plain {W : World} (h : laidMetH Tryd.prog laidL W) : laidMet Tryd.prog [("unicode/utf8.acceptRanges", Lib.acceptData), (nInv, invD), (nM0, DataW.map (ws0.map wEnt)), (nM1, DataW.map (ws1.map wEnt)), ("unicode.CaseRanges", Lib.caseData), ("unicode/utf8.first", Lib.firstData)] W := by
  rw [MakeChecks.laidMetH_plain _ _ _ (by kernel_rfl)] at h
  have h2 : laidMet Tryd.prog [("unicode/utf8.acceptRanges", Rows.laid_unicode_utf8_acceptRanges), (nInv, invD), (nM0, Rows.laid_github_com_evanw_esbuild_internal_css_parser_cssWideAndReservedKeywords), (nM1, Rows.laid_github_com_evanw_esbuild_internal_css_parser_predefinedCounterStyles), ("unicode.CaseRanges", Go.Pinned.caseRanges), ("unicode/utf8.first", Go.Pinned.utf8First)] W := h
  rw [accept_eq, d0, d1, Pinned.caseRanges_eq, Pinned.utf8First_eq] at h2
  exact h2
theorem low_of {W : World} (h : laidMetH Tryd.prog laidL W) : LowP lowS W := by
  have h2 := laid_plain h
  have hC : Go.Lib.CaseVar (Tryd.lays159_ren.g 13) Go.Lib.caseA W := caseVar_of_reads { Tryd.lays159 with } Tryd.lays159.t206 caseX (Lib.laidMet.reads h2 (.tail _ (.tail _ (.tail _ (.tail _ (.head _))))))
  have hU : Lib.Utf8Tabs (Tryd.lays159_ren.g 3) (Tryd.lays159_ren.g 4) W := utf8Tabs_of_reads { Tryd.lays159 with } u8X (Lib.laidMet.reads h2 (.tail _ (.tail _ (.tail _ (.tail _ (.tail _ (.head _))))))) (Lib.laidMet.reads h2 (.head _))
  intro s w' hs hb
  exact Tryd.strings_ToLower_any s w' (by omega) (Go.Lib.CaseVar_below hC hb) ⟨fun c hc => ac hb (hU.1 c hc), fun i hi => ⟨ac hb (hU.2 i hi).1, ac hb (hU.2 i hi).2⟩⟩
theorem g0 : Tryd.prog.globalNamed nM0 = some 0 := by kernel_rfl
theorem g1 : Tryd.prog.globalNamed nM1 = some 1 := by kernel_rfl
theorem g2 : Tryd.prog.globalNamed nInv = some 2 := by kernel_rfl
theorem t0 : (Tryd.prog.globals[0]?).map (·.type) = some 47 := by kernel_rfl
theorem t1 : (Tryd.prog.globals[1]?).map (·.type) = some 47 := by kernel_rfl
theorem t2 : (Tryd.prog.globals[2]?).map (·.type) = some 92 := by kernel_rfl
theorem at_words (ws : List (List UInt8)) (s : ByteArray) (z : DataW Unit) : (DataW.map (ws.map wEnt)).atKey (slit s) z = if anyW ws s = true then .lit (.bool true) else z := by
  have hk : ∀ w : List UInt8, (Lit.string w).sameKey (slit s) = (s.toList == w) := fun w => by
    show (w == s.data.toList) = _
    rw [ByteArray.toList_eq, Bool.beq_comm]
  have hu : ∀ l : List (Lit × DataW Unit), (DataW.map l).atKey (slit s) z = match l.find? (fun p => p.1.sameKey (slit s)) with | some p => p.2 | none => z := fun l => by simp only [DataW.atKey]; cases List.find? (fun p : Lit × DataW Unit => p.1.sameKey (slit s)) l <;> rfl
  rw [hu]
  induction ws with
  | nil => rfl
  | cons w ws ih =>
    have ha : anyW (w :: ws) s = ((s.toList == w) || anyW ws s) := rfl
    simp only [List.map_cons, List.find?, hk]
    rw [ha]
    cases (s.toList == w) with
    | true => rfl
    | false => rw [Bool.false_or]; exact ih
theorem elemAt_bool {W : World} {base : Nat} {held : Bool} {sp : Nat → Bool} {n : Nat} {v : Value} {z : DataW Unit × List MemPlace} (h : WideElems.elemAt (fun _ => ()) Tryd.prog W base sp held n 4 v = some z) : ∃ b, v = .bool b ∧ z = (.lit (.bool b), []) := by
  unfold WideElems.elemAt at h
  split at h
  · rename_i hf
    obtain ⟨b, hc, hz⟩ := DataW.trod_bool Tryd.underlying4 h
    cases v <;> simp [Value.formed, Tryd.underlying4, Value.cells] at hf hc
    subst hc
    exact ⟨_, rfl, hz⟩
  · cases h
theorem res0_of {W : World} (h : laidMetH Tryd.prog laidL W) : ResP 0 widW W := by
  obtain ⟨g, t, cs, fuel, p, h1, h2, h3, h4⟩ := Lib.laidMet.reads (laid_plain h) (n := nM0) (d := DataW.map (ws0.map wEnt)) (.tail _ (.tail _ (.head _)))
  obtain rfl := Option.some.inj (g0.symm.trans h1)
  obtain rfl := Option.some.inj (t0.symm.trans h2)
  rcases WideElems.open_map Tryd.underlying47 h4 with ⟨_, hx⟩ | ⟨bm, es, clock, m, -, hcs, hb, _, F, hx⟩
  · exact absurd (congrArg Prod.fst hx) (by intro e; cases e)
  · simp only [Prod.mk.injEq] at hx
    have hcell : W.cell? ⟨0, 0, none⟩ = some (.map (some bm)) := by
      have := World.var?_cell h1 h3 0
      rw [Array.eq_one_of_toList hcs] at this
      simpa using this
    refine ⟨bm, es, clock, hcell, hb, fun s W' hs hb' => ?_⟩
    have zero : (zeroValue 4).run Tryd.prog W' = .ok (.bool false) W' := by kernel_rfl
    rw [← any0 s]
    rcases WideElems.fit_lookup (w := W') (WideMaps.string_law Tryd.underlying9) Tryd.underlying47 zero hb' F (slit_key hs) with ⟨hrun, hat⟩ | ⟨v, y, hrun, hRv, hat, _⟩
    · have := hat (.lit (.bool false))
      rw [← hx.1, at_words] at this
      by_cases hr : anyW ws0 s = true
      · rw [if_pos hr] at this; cases this
      · rw [hrun]; simp at hr; rw [hr]
    · obtain ⟨b, rfl, rfl⟩ := elemAt_bool hRv
      have h1 := hat .nil
      rw [← hx.1, at_words] at h1
      by_cases hr : anyW ws0 s = true
      · rw [if_pos hr] at h1
        rw [hrun, hr]
        injection h1 with h1
        injection h1 with h1
        rw [← h1]
      · rw [if_neg hr] at h1; cases h1
theorem res1_of {W : World} (h : laidMetH Tryd.prog laidL W) : ResP 1 preW W := by
  obtain ⟨g, t, cs, fuel, p, h1, h2, h3, h4⟩ := Lib.laidMet.reads (laid_plain h) (n := nM1) (d := DataW.map (ws1.map wEnt)) (.tail _ (.tail _ (.tail _ (.head _))))
  obtain rfl := Option.some.inj (g1.symm.trans h1)
  obtain rfl := Option.some.inj (t1.symm.trans h2)
  rcases WideElems.open_map Tryd.underlying47 h4 with ⟨_, hx⟩ | ⟨bm, es, clock, m, -, hcs, hb, _, F, hx⟩
  · exact absurd (congrArg Prod.fst hx) (by intro e; cases e)
  · simp only [Prod.mk.injEq] at hx
    have hcell : W.cell? ⟨1, 0, none⟩ = some (.map (some bm)) := by
      have := World.var?_cell h1 h3 0
      rw [Array.eq_one_of_toList hcs] at this
      simpa using this
    refine ⟨bm, es, clock, hcell, hb, fun s W' hs hb' => ?_⟩
    have zero : (zeroValue 4).run Tryd.prog W' = .ok (.bool false) W' := by kernel_rfl
    rw [← any1 s]
    rcases WideElems.fit_lookup (w := W') (WideMaps.string_law Tryd.underlying9) Tryd.underlying47 zero hb' F (slit_key hs) with ⟨hrun, hat⟩ | ⟨v, y, hrun, hRv, hat, _⟩
    · have := hat (.lit (.bool false))
      rw [← hx.1, at_words] at this
      by_cases hr : anyW ws1 s = true
      · rw [if_pos hr] at this; cases this
      · rw [hrun]; simp at hr; rw [hr]
    · obtain ⟨b, rfl, rfl⟩ := elemAt_bool hRv
      have h1 := hat .nil
      rw [← hx.1, at_words] at h1
      by_cases hr : anyW ws1 s = true
      · rw [if_pos hr] at h1
        rw [hrun, hr]
        injection h1 with h1
        injection h1 with h1
        rw [← h1]
      · rw [if_neg hr] at h1; cases h1
theorem inv_of {W : World} (h : laidMetH Tryd.prog laidL W) : Inv W := by
  obtain ⟨g, t, cs, fuel, p, h1, h2, h3, h4⟩ := Lib.laidMet.reads (laid_plain h) (n := nInv) (d := invD) (.tail _ (.head _))
  obtain rfl := Option.some.inj (g2.symm.trans h1)
  obtain rfl := Option.some.inj (t2.symm.trans h2)
  obtain ⟨y0, y1, n, hx, hl, k0, k1⟩ := trod_struct2 Tryd.underlying92 h4
  obtain ⟨u0, e0, rfl, -⟩ := DataW.trod_int Tryd.underlying24 k0
  obtain ⟨u1, e1, rfl, -⟩ := DataW.trod_int Tryd.underlying24 k1
  have c22 : Tryd.prog.cellsOf 24 = 1 := by kernel_rfl
  have c104 : Tryd.prog.cellsOf 92 = 2 := by kernel_rfl
  have hd : invD = .agg [.lit (.int .u32 u0), .lit (.int .u32 u1)] := by injection hx
  have hi : invD = .agg [.lit (.int .u32 4294967295), .lit (.int .u32 4294967295)] := rfl
  rw [hi] at hd
  simp only [DataW.agg.injEq, List.cons.injEq, DataW.lit.injEq, Lit.int.injEq, true_and, and_true] at hd
  obtain ⟨rfl, rfl⟩ := hd
  obtain ⟨ls⟩ := cs
  simp only [c22, c104] at e0 e1 hl
  match ls, hl with
  | [a, b], _ =>
    simp at e0 e1
    subst e0 e1
    exact ⟨by simpa using World.var?_cell h1 h3 0, by simpa using World.var?_cell h1 h3 1⟩
theorem env_of {W : World} (h : laidMetH Tryd.prog laidL W) : Env lowS W :=
  ⟨low_of h, agrS, lowS_size, res0_of h, res1_of h, inv_of h, block_lt_of_cell (inv_of h).c0⟩
end Go.Proofs.YtpjbhbbhkhfiaaaDoor
