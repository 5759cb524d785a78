/- Contracts of the token cursor of css_parser and of the builders of its token lists. -/
import Derived.Test.YtfklgdecaknbaaaFmtRows
import Derived.Test.YtfklgdecaknbaaaFmtAp
import Derived.Test.YtfklgdecaknbaaaFmtMk
import Derived.WalkKit
import Derived.ProofKit
import Derived.OpenShut
import Derived.ShutString
import Derived.ChangeOld
import Derived.Below
import Derived.Outline
import Derived.Lib.Hide
import Derived.Laws.MakeOwn
import Derived.Deep.Cut
set_option linter.unusedVariables false
set_option linter.unusedSimpArgs false
namespace Go.Proofs.YtfklgdecaknbaaaFmt
open Go.RowKit
abbrev tok (s l u k f : Int) : Value := .agg #[.int .i32 s, .int .i32 l, .int .u16 u, .int .u8 k, .int .u8 f]
/-- the first k tokens of a list of tokens that lies in block T -/
def TK (w : World) (T k : Nat) (K S L : Nat → Int) : Prop := ∀ i, i < k → w.cell? ⟨T, i * 5, none⟩ = some (.int .i32 (S i)) ∧ w.cell? ⟨T, i * 5 + 1, none⟩ = some (.int .i32 (L i)) ∧ w.cell? ⟨T, i * 5 + 2, none⟩ = some (.int .u16 0) ∧
  w.cell? ⟨T, i * 5 + 3, none⟩ = some (.int .u8 (K i)) ∧ w.cell? ⟨T, i * 5 + 4, none⟩ = some (.int .u8 0)
theorem TK.after {w w' : World} {T k : Nat} {K S L : Nat → Int} (h : TK w T k K S L) (hb : Below w.heap.size w w') : TK w' T k K S L := fun i hi => by
  obtain ⟨h0, h1, h2, h3, h4⟩ := h i hi
  exact ⟨ac hb h0, ac hb h1, ac hb h2, ac hb h3, ac hb h4⟩
theorem TK.step {w : World} {T k N : Nat} {K S L : Nat → Int} (h : TK w T k K S L) (r : Room w T N) (hN : k * 5 + 4 < N) :
    TK (((((w.setCell ⟨T, k * 5, none⟩ (.int .i32 (S k))).setCell ⟨T, k * 5 + 1, none⟩ (.int .i32 (L k))).setCell ⟨T, k * 5 + 2, none⟩ (.int .u16 0)).setCell ⟨T, k * 5 + 3, none⟩ (.int .u8 (K k))).setCell ⟨T, k * 5 + 4, none⟩ (.int .u8 0)) T (k + 1) K S L := by
  have ne : ∀ {i j : Nat}, i ≠ j → (⟨T, i, none⟩ : Addr) ≠ ⟨T, j, none⟩ := fun h e => h (by injection e)
  obtain ⟨v0, r0, -⟩ := r (k * 5) (by omega)
  obtain ⟨v1, r1, -⟩ := r (k * 5 + 1) (by omega)
  obtain ⟨v2, r2, -⟩ := r (k * 5 + 2) (by omega)
  obtain ⟨v3, r3, -⟩ := r (k * 5 + 3) (by omega)
  obtain ⟨v4, r4, -⟩ := r (k * 5 + 4) (by omega)
  intro i hi
  by_cases e : i = k
  · subst e
    refine ⟨?_, ?_, ?_, ?_, ?_⟩
    · rw [co (ne (by omega)), co (ne (by omega)), co (ne (by omega)), co (ne (by omega))]; exact cs r0
    · rw [co (ne (by omega)), co (ne (by omega)), co (ne (by omega))]; exact cs (u := v1) (by rw [co (ne (by omega))]; exact r1)
    · rw [co (ne (by omega)), co (ne (by omega))]; exact cs (u := v2) (by rw [co (ne (by omega)), co (ne (by omega))]; exact r2)
    · rw [co (ne (by omega))]; exact cs (u := v3) (by rw [co (ne (by omega)), co (ne (by omega)), co (ne (by omega))]; exact r3)
    · exact cs (u := v4) (by rw [co (ne (by omega)), co (ne (by omega)), co (ne (by omega)), co (ne (by omega))]; exact r4)
  · obtain ⟨h0, h1, h2, h3, h4⟩ := h i (by omega)
    refine ⟨?_, ?_, ?_, ?_, ?_⟩ <;> rw [co (ne (by omega)), co (ne (by omega)), co (ne (by omega)), co (ne (by omega)), co (ne (by omega))] <;> assumption
/-- the parser's block: its text, its tokens, its cursor -/
structure PS (w : World) (b T n : Nat) (idx : Int) (ct : ByteArray) (K S L : Nat → Int) : Prop where
  txt : w.cell? ⟨b, 9, none⟩ = some (.string ct)
  tks : w.cell? ⟨b, 16, none⟩ = some (.slice (some ⟨T, 0, none⟩) n n)
  cur : w.cell? ⟨b, 42, none⟩ = some (.int .i64 idx)
  free : w.frozen? ⟨b, 42, none⟩ = false
  ne : b ≠ T
  tk : TK w T n K S L
theorem PS.after {w w' : World} {b T n : Nat} {idx : Int} {ct : ByteArray} {K S L : Nat → Int} (h : PS w b T n idx ct K S L) (hb : Below w.heap.size w w') : PS w' b T n idx ct K S L :=
  ⟨ac hb h.txt, ac hb h.tks, ac hb h.cur, af hb h.cur h.free, h.ne, h.tk.after hb⟩
/-- the token at index i -/
def at_ (n : Nat) (ct : ByteArray) (K S L : Nat → Int) (i : Nat) : Value := if i < n then tok (S i) (L i) 0 (K i) 0 else tok ct.size 0 0 0 0
set_option maxRecDepth 100000 in
theorem at_c (b T n i : Nat) (idx : Int) (ct : ByteArray) (K S L : Nat → Int) (w : World) (h : PS w b T n idx ct K S L) (hn : n ≤ 1048576) (hs : ct.size ≤ 1048576) (hi : i ≤ 9223372036854775807) :
    Calls Tryf.prog 18 #[.pointer (some ⟨b, 0, none⟩), .int .i64 i] w fun e w' => e = .returned (at_ n ct K S L i) ∧ Below w.heap.size w w' := by
  have a1 := al h.tks
  by_cases c : i < n
  · obtain ⟨t0, t1, t2, t3, t4⟩ := h.tk i c
    have a2 := al t0; have a3 := al t1; have a4 := al t2; have a5 := al t3; have a6 := al t4
    have e : at_ n ct K S L i = tok (S i) (L i) 0 (K i) 0 := if_pos c
    have E := Lib.hid e
    clear e h t0 t1 t2 t3 t4
    go_enter Tryf.func18, Tryf.ntmps18
    go_wp2
    refine bodyPost_ret (v := tok (S i) (L i) 0 (K i) 0) (by simp [results, Tryf.results18, go_sem]) rfl ⟨by rw [E.out], (Below.refl _ _).alloc (Nat.le_refl _) _⟩
  · have a2 := al h.txt
    have e : at_ n ct K S L i = tok ct.size 0 0 0 0 := if_neg c
    have E := Lib.hid e
    have c' : n ≤ i := by omega
    clear e h
    go_enter Tryf.func18, Tryf.ntmps18
    go_wp2
    refine bodyPost_ret (v := tok ct.size 0 0 0 0) (by simp [results, Tryf.results18, go_sem]) rfl ⟨by rw [E.out], (Below.refl _ _).alloc (Nat.le_refl _) _⟩
def atK (n : Nat) (K : Nat → Int) (i : Nat) : Int := if i < n then K i else 0
def atS (n : Nat) (ct : ByteArray) (S : Nat → Int) (i : Nat) : Int := if i < n then S i else ct.size
def atL (n : Nat) (L : Nat → Int) (i : Nat) : Int := if i < n then L i else 0
theorem at_eq (n : Nat) (ct : ByteArray) (K S L : Nat → Int) (i : Nat) : at_ n ct K S L i = tok (atS n ct S i) (atL n L i) 0 (atK n K i) 0 := by
  unfold at_ atS atL atK; split <;> rfl
theorem at_t (b T n i : Nat) (idx : Int) (ct : ByteArray) (K S L : Nat → Int) (w : World) (h : PS w b T n idx ct K S L) (hn : n ≤ 1048576) (hs : ct.size ≤ 1048576) (hi : i ≤ 9223372036854775807) :
    Calls Tryf.prog 18 #[.pointer (some ⟨b, 0, none⟩), .int .i64 i] w fun e w' => e = .returned (tok (atS n ct S i) (atL n L i) 0 (atK n K i) 0) ∧ Below w.heap.size w w' := by
  rw [← at_eq]; exact at_c b T n i idx ct K S L w h hn hs hi
/-- a new token variable, behind a call -/
theorem five {w w' : World} (hb : Below (w.alloc (.cells #[.int .i32 0, .int .i32 0, .int .u16 0, .int .u8 0, .int .u8 0] 43)).heap.size (w.alloc (.cells #[.int .i32 0, .int .i32 0, .int .u16 0, .int .u8 0, .int .u8 0] 43)) w') :
    (w'.cell? ⟨w.heap.size, 0, none⟩ = some (.int .i32 0) ∧ w'.cell? ⟨w.heap.size, 1, none⟩ = some (.int .i32 0) ∧ w'.cell? ⟨w.heap.size, 2, none⟩ = some (.int .u16 0) ∧ w'.cell? ⟨w.heap.size, 3, none⟩ = some (.int .u8 0) ∧ w'.cell? ⟨w.heap.size, 4, none⟩ = some (.int .u8 0)) ∧
    (w'.frozen? ⟨w.heap.size, 0, none⟩ = false ∧ w'.frozen? ⟨w.heap.size, 1, none⟩ = false ∧ w'.frozen? ⟨w.heap.size, 2, none⟩ = false ∧ w'.frozen? ⟨w.heap.size, 3, none⟩ = false ∧ w'.frozen? ⟨w.heap.size, 4, none⟩ = false) ∧ Below w.heap.size w w' :=
  ⟨⟨ac hb (by simp [go_sem]), ac hb (by simp [go_sem]), ac hb (by simp [go_sem]), ac hb (by simp [go_sem]), ac hb (by simp [go_sem])⟩,
   ⟨af (v := .int .i32 0) hb (by simp [go_sem]) (by simp [go_sem]), af (v := .int .i32 0) hb (by simp [go_sem]) (by simp [go_sem]), af (v := .int .u16 0) hb (by simp [go_sem]) (by simp [go_sem]), af (v := .int .u8 0) hb (by simp [go_sem]) (by simp [go_sem]), af (v := .int .u8 0) hb (by simp [go_sem]) (by simp [go_sem])⟩,
   ((Below.refl _ _).alloc (Nat.le_refl _) _).trans (hb.mono (by simp))⟩
set_option maxRecDepth 100000 in
theorem current_c (b T n i : Nat) (ct : ByteArray) (K S L : Nat → Int) (w : World) (h : PS w b T n i ct K S L) (hn : n ≤ 1048576) (hs : ct.size ≤ 1048576) (hi : i ≤ 9223372036854775807) :
    Calls Tryf.prog 14 #[.pointer (some ⟨b, 0, none⟩)] w fun e w' => e = .returned (tok (atS n ct S i) (atL n L i) 0 (atK n K i) 0) ∧ Below w.heap.size w w' := by
  have a1 := al h.cur
  have h' := h.after (w' := w.alloc (.cells #[.int .i32 0, .int .i32 0, .int .u16 0, .int .u8 0, .int .u8 0] 43)) ((Below.refl _ _).alloc (Nat.le_refl _) _)
  have C := Lib.hid (at_t b T n i i ct K S L _ h' hn hs hi)
  clear h h'
  go_enter Tryf.func14, Tryf.ntmps14
  go_wp2_with (go_at_call 18; (with_reducible refine C.out.mono ?_); rintro e w' ⟨rfl, hb⟩; obtain ⟨⟨z0, z1, z2, z3, z4⟩, ⟨f0, f1, f2, f3, f4⟩, hB⟩ := five hb; clear hb)
  refine bodyPost_ret (v := tok (atS n ct S i) (atL n L i) 0 (atK n K i) 0) (by simp [results, Tryf.results14, go_sem, z0, z1, z2, z3, z4]) rfl ⟨rfl, ?_⟩
  repeat (first | exact hB | refine Below.setCell ?_ (by simp) _)
set_option maxRecDepth 100000 in
theorem fld_kind (s l u k f : Int) (w : World) : (Instr.field 43 (tok s l u k f) 2).run Tryf.prog w = .ok (.int .u8 k) w := by rfl
set_option maxRecDepth 100000 in
theorem peek_c (b T n i : Nat) (k : Int) (ct : ByteArray) (K S L : Nat → Int) (w : World) (h : PS w b T n i ct K S L) (hn : n ≤ 1048576) (hs : ct.size ≤ 1048576) (hi : i ≤ 9223372036854775807) :
    Calls Tryf.prog 15 #[.pointer (some ⟨b, 0, none⟩), .int .u8 k] w fun e w' => e = .returned (.bool (k == atK n K i)) ∧ Below w.heap.size w w' := by
  have C := Lib.hid (current_c b T n i ct K S L w h hn hs hi)
  have kf := fld_kind
  clear h
  go_enter Tryf.func15, Tryf.ntmps15
  go_wp2_with (go_at_call 14; (with_reducible refine C.out.mono ?_); rintro e w' ⟨rfl, hb⟩)
  go_ret
  exact ⟨rfl, hb⟩
set_option maxRecDepth 100000 in
theorem index12_c (b T n : Nat) (i : Int) (ct : ByteArray) (K S L : Nat → Int) (w : World) (h : PS w b T n i ct K S L) :
    Calls Tryf.prog 10 #[.pointer (some ⟨b, 0, none⟩)] w fun e w' => e = .returned (.int .i64 i) ∧ w = w' := by
  have a1 := h.cur
  clear h
  go_enter Tryf.func10, Tryf.ntmps10
  go_wp2
  go_ret
  exact ⟨rfl, rfl⟩
/-- what 'advance' makes of the cursor -/
theorem PS.move {w : World} {b T n : Nat} {idx : Int} {ct : ByteArray} {K S L : Nat → Int} (h : PS w b T n idx ct K S L) (i : Int) : PS (w.setCell ⟨b, 42, none⟩ (.int .i64 i)) b T n i ct K S L := by
  have ne : ∀ j, (⟨b, 42, none⟩ : Addr) ≠ ⟨T, j, none⟩ := fun j e => h.ne (by injection e)
  refine ⟨by rw [co (by simp)]; exact h.txt, by rw [co (by simp)]; exact h.tks, cs h.cur, by rw [fz]; exact h.free, h.ne, fun j hj => ?_⟩
  obtain ⟨h0, h1, h2, h3, h4⟩ := h.tk j hj
  exact ⟨by rw [co (ne _)]; exact h0, by rw [co (ne _)]; exact h1, by rw [co (ne _)]; exact h2, by rw [co (ne _)]; exact h3, by rw [co (ne _)]; exact h4⟩
set_option maxRecDepth 100000 in
theorem advance_c (b T n i : Nat) (ct : ByteArray) (K S L : Nat → Int) (w : World) (h : PS w b T n i ct K S L) (hn : n ≤ 1048576) (c : i < n) :
    Calls Tryf.prog 16 #[.pointer (some ⟨b, 0, none⟩)] w fun e w' => e = .returned (.tuple #[]) ∧ ∃ q, w' = (w.drewN q).setCell ⟨b, 42, none⟩ (.int .i64 ((i : Int) + 1)) := by
  have a1 := h.cur; have a2 := h.tks; have a3 := h.free
  clear h
  go_enter Tryf.func16, Tryf.ntmps16
  go_wp2
  go_quiet (fail)
  go_wp2
  go_end0
  exact ⟨rfl, _, rfl⟩
end Go.Proofs.YtfklgdecaknbaaaFmt
