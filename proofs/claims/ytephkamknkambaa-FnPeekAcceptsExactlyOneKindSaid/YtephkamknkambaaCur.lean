/- Contracts of the token cursor of css_parser and of the builders of its token lists. -/
import Derived.Test.YtephkamknkambaaRows
import Derived.Test.YtephkamknkambaaST
import Derived.WalkKit
import Derived.ProofKit
import Derived.OpenShut
import Derived.ShutString
import Derived.ChangeOld
import Derived.Below
import Derived.Outline
import Derived.Lib.Hide
import Derived.Laws.MakeOwn
import Derived.Deep.Cut
set_option linter.unusedVariables false
set_option linter.unusedSimpArgs false
namespace Go.Proofs.Ytephkamknkambaa
open Go.RowKit
theorem al {w : World} {a : Addr} {v : Value} (h : w.cell? a = some v) (o : Obj) : (w.alloc o).cell? a = some v := by
  have hb : Below w.heap.size w (w.alloc o) := (Below.refl _ _).alloc (Nat.le_refl _) _
  rw [hb.cell (block_lt_of_cell h)]; exact h
theorem ac {W w' : World} (hb : Below W.heap.size W w') {a : Addr} {v : Value} (hc : W.cell? a = some v) : w'.cell? a = some v := by rw [hb.cell (block_lt_of_cell hc)]; exact hc
theorem af {W w' : World} (hb : Below W.heap.size W w') {a : Addr} {v : Value} (hc : W.cell? a = some v) (hf : W.frozen? a = false) : w'.frozen? a = false := by rw [hb.frozen (block_lt_of_cell hc)]; exact hf
theorem cs {w : World} {p : Addr} {u v : Value} (h : w.cell? p = some u) : (w.setCell p v).cell? p = some v := by simp [go_sem, h]
theorem co {w : World} {p q : Addr} {v : Value} (h : p ≠ q) : (w.setCell p v).cell? q = w.cell? q := World.cell?_setCell_other w p q v h
theorem fz {w : World} {p q : Addr} {v : Value} : (w.setCell p v).frozen? q = w.frozen? q := by simp [go_sem]
theorem bdN {B : Nat} {a w : World} (h : Below B a w) (n : Nat) : Below B a (w.drewN n) := ⟨h.os, h.tape, h.output, h.size, h.block⟩
abbrev tok (s l u k f : Int) : Value := .agg #[.int .i32 s, .int .i32 l, .int .u16 u, .int .u8 k, .int .u8 f]
/-- a slice of integers, read -/
def Row (k : IntKind) (w : World) (A : Option Addr) (n : Nat) (f : Nat → Int) : Prop := ∀ i, i < n → ∃ x, A = some x ∧ w.cell? (x.add i) = some (.int k (f i))
theorem Row.after {k : IntKind} {w w' : World} {A : Option Addr} {n : Nat} {f : Nat → Int} (h : Row k w A n f) (hb : Below w.heap.size w w') : Row k w' A n f := fun i hi => by
  obtain ⟨x, e, hc⟩ := h i hi
  exact ⟨x, e, ac hb hc⟩
/-- the first k tokens of a list of tokens that lies in block T -/
def TK (w : World) (T k : Nat) (K S L : Nat → Int) : Prop := ∀ i, i < k → w.cell? ⟨T, i * 5, none⟩ = some (.int .i32 (S i)) ∧ w.cell? ⟨T, i * 5 + 1, none⟩ = some (.int .i32 (L i)) ∧ w.cell? ⟨T, i * 5 + 2, none⟩ = some (.int .u16 0) ∧
  w.cell? ⟨T, i * 5 + 3, none⟩ = some (.int .u8 (K i)) ∧ w.cell? ⟨T, i * 5 + 4, none⟩ = some (.int .u8 0)
/-- N cells that may be written -/
def Room (w : World) (T N : Nat) : Prop := ∀ j, j < N → ∃ v, w.cell? ⟨T, j, none⟩ = some v ∧ w.frozen? ⟨T, j, none⟩ = false
theorem TK.after {w w' : World} {T k : Nat} {K S L : Nat → Int} (h : TK w T k K S L) (hb : Below w.heap.size w w') : TK w' T k K S L := fun i hi => by
  obtain ⟨h0, h1, h2, h3, h4⟩ := h i hi
  exact ⟨ac hb h0, ac hb h1, ac hb h2, ac hb h3, ac hb h4⟩
theorem Room.after {w w' : World} {T N : Nat} (h : Room w T N) (hb : Below w.heap.size w w') : Room w' T N := fun j hj => by
  obtain ⟨v, h1, h2⟩ := h j hj
  exact ⟨v, ac hb h1, af hb h1 h2⟩
theorem Room.set {w : World} {T N : Nat} (h : Room w T N) (j : Nat) (v : Value) : Room (w.setCell ⟨T, j, none⟩ v) T N := fun i hi => by
  obtain ⟨u, h1, h2⟩ := h i hi
  by_cases e : j = i
  · subst e; exact ⟨v, cs h1, by rw [fz]; exact h2⟩
  · exact ⟨u, by rw [co (by simp [e])]; exact h1, by rw [fz]; exact h2⟩
theorem Room.made (w : World) (z : Array Value) (N : Nat) (t : TypeId) : Room (w.alloc (.cells (madeCells z N) t)) w.heap.size N := fun j hj => by
  refine ⟨(madeCells z N)[j]'(by rw [size_madeCells]; exact hj), ?_, ?_⟩
  · simp [go_sem, size_madeCells, hj]
  · simp [go_sem]
theorem TK.step {w : World} {T k N : Nat} {K S L : Nat → Int} (h : TK w T k K S L) (r : Room w T N) (hN : k * 5 + 4 < N) :
    TK (((((w.setCell ⟨T, k * 5, none⟩ (.int .i32 (S k))).setCell ⟨T, k * 5 + 1, none⟩ (.int .i32 (L k))).setCell ⟨T, k * 5 + 2, none⟩ (.int .u16 0)).setCell ⟨T, k * 5 + 3, none⟩ (.int .u8 (K k))).setCell ⟨T, k * 5 + 4, none⟩ (.int .u8 0)) T (k + 1) K S L := by
  have ne : ∀ {i j : Nat}, i ≠ j → (⟨T, i, none⟩ : Addr) ≠ ⟨T, j, none⟩ := fun h e => h (by injection e)
  obtain ⟨v0, r0, -⟩ := r (k * 5) (by omega)
  obtain ⟨v1, r1, -⟩ := r (k * 5 + 1) (by omega)
  obtain ⟨v2, r2, -⟩ := r (k * 5 + 2) (by omega)
  obtain ⟨v3, r3, -⟩ := r (k * 5 + 3) (by omega)
  obtain ⟨v4, r4, -⟩ := r (k * 5 + 4) (by omega)
  intro i hi
  by_cases e : i = k
  · subst e
    refine ⟨?_, ?_, ?_, ?_, ?_⟩
    · rw [co (ne (by omega)), co (ne (by omega)), co (ne (by omega)), co (ne (by omega))]; exact cs r0
    · rw [co (ne (by omega)), co (ne (by omega)), co (ne (by omega))]; exact cs (u := v1) (by rw [co (ne (by omega))]; exact r1)
    · rw [co (ne (by omega)), co (ne (by omega))]; exact cs (u := v2) (by rw [co (ne (by omega)), co (ne (by omega))]; exact r2)
    · rw [co (ne (by omega))]; exact cs (u := v3) (by rw [co (ne (by omega)), co (ne (by omega)), co (ne (by omega))]; exact r3)
    · exact cs (u := v4) (by rw [co (ne (by omega)), co (ne (by omega)), co (ne (by omega)), co (ne (by omega))]; exact r4)
  · obtain ⟨h0, h1, h2, h3, h4⟩ := h i (by omega)
    refine ⟨?_, ?_, ?_, ?_, ?_⟩ <;> rw [co (ne (by omega)), co (ne (by omega)), co (ne (by omega)), co (ne (by omega)), co (ne (by omega))] <;> assumption
/-- the parser's block: its text, its tokens, its cursor -/
structure PS (w : World) (b T n : Nat) (idx : Int) (ct : ByteArray) (K S L : Nat → Int) : Prop where
  txt : w.cell? ⟨b, 9, none⟩ = some (.string ct)
  tks : w.cell? ⟨b, 16, none⟩ = some (.slice (some ⟨T, 0, none⟩) n n)
  cur : w.cell? ⟨b, 42, none⟩ = some (.int .i64 idx)
  free : w.frozen? ⟨b, 42, none⟩ = false
  ne : b ≠ T
  tk : TK w T n K S L
theorem PS.after {w w' : World} {b T n : Nat} {idx : Int} {ct : ByteArray} {K S L : Nat → Int} (h : PS w b T n idx ct K S L) (hb : Below w.heap.size w w') : PS w' b T n idx ct K S L :=
  ⟨ac hb h.txt, ac hb h.tks, ac hb h.cur, af hb h.cur h.free, h.ne, h.tk.after hb⟩
/-- the token at index i -/
def at_ (n : Nat) (ct : ByteArray) (K S L : Nat → Int) (i : Nat) : Value := if i < n then tok (S i) (L i) 0 (K i) 0 else tok ct.size 0 0 0 0
set_option maxRecDepth 100000 in
theorem at_c (b T n i : Nat) (idx : Int) (ct : ByteArray) (K S L : Nat → Int) (w : World) (h : PS w b T n idx ct K S L) (hn : n ≤ 1048576) (hs : ct.size ≤ 1048576) (hi : i ≤ 9223372036854775807) :
    Calls Try.prog 26 #[.pointer (some ⟨b, 0, none⟩), .int .i64 i] w fun e w' => e = .returned (at_ n ct K S L i) ∧ Below w.heap.size w w' := by
  have a1 := al h.tks
  by_cases c : i < n
  · obtain ⟨t0, t1, t2, t3, t4⟩ := h.tk i c
    have a2 := al t0; have a3 := al t1; have a4 := al t2; have a5 := al t3; have a6 := al t4
    have e : at_ n ct K S L i = tok (S i) (L i) 0 (K i) 0 := if_pos c
    have E := Lib.hid e
    clear e h t0 t1 t2 t3 t4
    go_enter Try.func26, Try.ntmps26
    go_wp2
    refine bodyPost_ret (v := tok (S i) (L i) 0 (K i) 0) (by simp [results, Try.results26, go_sem]) rfl ⟨by rw [E.out], (Below.refl _ _).alloc (Nat.le_refl _) _⟩
  · have a2 := al h.txt
    have e : at_ n ct K S L i = tok ct.size 0 0 0 0 := if_neg c
    have E := Lib.hid e
    have c' : n ≤ i := by omega
    clear e h
    go_enter Try.func26, Try.ntmps26
    go_wp2
    refine bodyPost_ret (v := tok ct.size 0 0 0 0) (by simp [results, Try.results26, go_sem]) rfl ⟨by rw [E.out], (Below.refl _ _).alloc (Nat.le_refl _) _⟩
def atK (n : Nat) (K : Nat → Int) (i : Nat) : Int := if i < n then K i else 0
def atS (n : Nat) (ct : ByteArray) (S : Nat → Int) (i : Nat) : Int := if i < n then S i else ct.size
def atL (n : Nat) (L : Nat → Int) (i : Nat) : Int := if i < n then L i else 0
theorem at_eq (n : Nat) (ct : ByteArray) (K S L : Nat → Int) (i : Nat) : at_ n ct K S L i = tok (atS n ct S i) (atL n L i) 0 (atK n K i) 0 := by
  unfold at_ atS atL atK; split <;> rfl
theorem at_t (b T n i : Nat) (idx : Int) (ct : ByteArray) (K S L : Nat → Int) (w : World) (h : PS w b T n idx ct K S L) (hn : n ≤ 1048576) (hs : ct.size ≤ 1048576) (hi : i ≤ 9223372036854775807) :
    Calls Try.prog 26 #[.pointer (some ⟨b, 0, none⟩), .int .i64 i] w fun e w' => e = .returned (tok (atS n ct S i) (atL n L i) 0 (atK n K i) 0) ∧ Below w.heap.size w w' := by
  rw [← at_eq]; exact at_c b T n i idx ct K S L w h hn hs hi
/-- a new token variable, behind a call -/
theorem five {w w' : World} (hb : Below (w.alloc (.cells #[.int .i32 0, .int .i32 0, .int .u16 0, .int .u8 0, .int .u8 0] 47)).heap.size (w.alloc (.cells #[.int .i32 0, .int .i32 0, .int .u16 0, .int .u8 0, .int .u8 0] 47)) w') :
    (w'.cell? ⟨w.heap.size, 0, none⟩ = some (.int .i32 0) ∧ w'.cell? ⟨w.heap.size, 1, none⟩ = some (.int .i32 0) ∧ w'.cell? ⟨w.heap.size, 2, none⟩ = some (.int .u16 0) ∧ w'.cell? ⟨w.heap.size, 3, none⟩ = some (.int .u8 0) ∧ w'.cell? ⟨w.heap.size, 4, none⟩ = some (.int .u8 0)) ∧
    (w'.frozen? ⟨w.heap.size, 0, none⟩ = false ∧ w'.frozen? ⟨w.heap.size, 1, none⟩ = false ∧ w'.frozen? ⟨w.heap.size, 2, none⟩ = false ∧ w'.frozen? ⟨w.heap.size, 3, none⟩ = false ∧ w'.frozen? ⟨w.heap.size, 4, none⟩ = false) ∧ Below w.heap.size w w' :=
  ⟨⟨ac hb (by simp [go_sem]), ac hb (by simp [go_sem]), ac hb (by simp [go_sem]), ac hb (by simp [go_sem]), ac hb (by simp [go_sem])⟩,
   ⟨af (v := .int .i32 0) hb (by simp [go_sem]) (by simp [go_sem]), af (v := .int .i32 0) hb (by simp [go_sem]) (by simp [go_sem]), af (v := .int .u16 0) hb (by simp [go_sem]) (by simp [go_sem]), af (v := .int .u8 0) hb (by simp [go_sem]) (by simp [go_sem]), af (v := .int .u8 0) hb (by simp [go_sem]) (by simp [go_sem])⟩,
   ((Below.refl _ _).alloc (Nat.le_refl _) _).trans (hb.mono (by simp))⟩
set_option maxRecDepth 100000 in
theorem current_c (b T n i : Nat) (ct : ByteArray) (K S L : Nat → Int) (w : World) (h : PS w b T n i ct K S L) (hn : n ≤ 1048576) (hs : ct.size ≤ 1048576) (hi : i ≤ 9223372036854775807) :
    Calls Try.prog 23 #[.pointer (some ⟨b, 0, none⟩)] w fun e w' => e = .returned (tok (atS n ct S i) (atL n L i) 0 (atK n K i) 0) ∧ Below w.heap.size w w' := by
  have a1 := al h.cur
  have h' := h.after (w' := w.alloc (.cells #[.int .i32 0, .int .i32 0, .int .u16 0, .int .u8 0, .int .u8 0] 47)) ((Below.refl _ _).alloc (Nat.le_refl _) _)
  have C := Lib.hid (at_t b T n i i ct K S L _ h' hn hs hi)
  clear h h'
  go_enter Try.func23, Try.ntmps23
  go_wp2_with (go_at_call 26; (with_reducible refine C.out.mono ?_); rintro e w' ⟨rfl, hb⟩; obtain ⟨⟨z0, z1, z2, z3, z4⟩, ⟨f0, f1, f2, f3, f4⟩, hB⟩ := five hb; clear hb)
  refine bodyPost_ret (v := tok (atS n ct S i) (atL n L i) 0 (atK n K i) 0) (by simp [results, Try.results23, go_sem, z0, z1, z2, z3, z4]) rfl ⟨rfl, ?_⟩
  repeat (first | exact hB | refine Below.setCell ?_ (by simp) _)
set_option maxRecDepth 100000 in
theorem fld_kind (s l u k f : Int) (w : World) : (Instr.field 47 (tok s l u k f) 2).run Try.prog w = .ok (.int .u8 k) w := by rfl
set_option maxRecDepth 100000 in
theorem peek_c (b T n i : Nat) (k : Int) (ct : ByteArray) (K S L : Nat → Int) (w : World) (h : PS w b T n i ct K S L) (hn : n ≤ 1048576) (hs : ct.size ≤ 1048576) (hi : i ≤ 9223372036854775807) :
    Calls Try.prog 22 #[.pointer (some ⟨b, 0, none⟩), .int .u8 k] w fun e w' => e = .returned (.bool (k == atK n K i)) ∧ Below w.heap.size w w' := by
  have C := Lib.hid (current_c b T n i ct K S L w h hn hs hi)
  have kf := fld_kind
  clear h
  go_enter Try.func22, Try.ntmps22
  go_wp2_with (go_at_call 23; (with_reducible refine C.out.mono ?_); rintro e w' ⟨rfl, hb⟩)
  go_ret
  exact ⟨rfl, hb⟩
set_option maxRecDepth 100000 in
theorem zzpeek_c (b T n i : Nat) (k : Int) (ct : ByteArray) (K S L : Nat → Int) (w : World) (h : PS w b T n i ct K S L) (hn : n ≤ 1048576) (hs : ct.size ≤ 1048576) (hi : i ≤ 9223372036854775807) :
    Calls Try.prog 11 #[.pointer (some ⟨b, 0, none⟩), .int .u8 k] w fun e w' => e = .returned (.bool (k == atK n K i)) ∧ Below w.heap.size w w' := by
  have C := Lib.hid (peek_c b T n i k ct K S L w h hn hs hi)
  clear h
  go_enter Try.func11, Try.ntmps11
  go_wp2_with (go_at_call 22; (with_reducible refine C.out.mono ?_); rintro e w' ⟨rfl, hb⟩)
  go_ret
  exact ⟨rfl, hb⟩
set_option maxRecDepth 100000 in
theorem index12_c (b T n : Nat) (i : Int) (ct : ByteArray) (K S L : Nat → Int) (w : World) (h : PS w b T n i ct K S L) :
    Calls Try.prog 12 #[.pointer (some ⟨b, 0, none⟩)] w fun e w' => e = .returned (.int .i64 i) ∧ w = w' := by
  have a1 := h.cur
  clear h
  go_enter Try.func12, Try.ntmps12
  go_wp2
  go_ret
  exact ⟨rfl, rfl⟩
set_option maxRecDepth 100000 in
theorem index18_c (b T n : Nat) (i : Int) (ct : ByteArray) (K S L : Nat → Int) (w : World) (h : PS w b T n i ct K S L) :
    Calls Try.prog 18 #[.pointer (some ⟨b, 0, none⟩)] w fun e w' => e = .returned (.int .i64 i) ∧ w = w' := by
  have a1 := h.cur
  clear h
  go_enter Try.func18, Try.ntmps18
  go_wp2
  go_ret
  exact ⟨rfl, rfl⟩
set_option maxRecDepth 100000 in
theorem zzcur_c (b T n i : Nat) (ct : ByteArray) (K S L : Nat → Int) (w : World) (h : PS w b T n i ct K S L) (hn : n ≤ 1048576) (hs : ct.size ≤ 1048576) (hi : i ≤ 9223372036854775807) :
    Calls Try.prog 15 #[.pointer (some ⟨b, 0, none⟩)] w fun e w' => e = .returned (.tuple #[.int .u8 (atK n K i), .int .i32 (atS n ct S i), .int .i32 (atL n L i)]) ∧ Below w.heap.size w w' := by
  have C := Lib.hid (current_c b T n i ct K S L w h hn hs hi)
  clear h
  go_enter Try.func15, Try.ntmps15
  go_wp2_with (go_at_call 23; (with_reducible refine C.out.mono ?_); rintro e w' ⟨rfl, hb⟩)
  go_quiet (fail)
  go_wp2
  go_ret3
  exact ⟨rfl, bdN (hb.alloc hb.size _) _⟩
set_option maxRecDepth 100000 in
theorem zzat_c (b T n i : Nat) (idx : Int) (ct : ByteArray) (K S L : Nat → Int) (w : World) (h : PS w b T n idx ct K S L) (hn : n ≤ 1048576) (hs : ct.size ≤ 1048576) (hi : i ≤ 9223372036854775807) :
    Calls Try.prog 20 #[.pointer (some ⟨b, 0, none⟩), .int .i64 i] w fun e w' => e = .returned (.tuple #[.int .u8 (atK n K i), .int .i32 (atS n ct S i), .int .i32 (atL n L i)]) ∧ Below w.heap.size w w' := by
  have C := Lib.hid (at_t b T n i idx ct K S L w h hn hs hi)
  clear h
  go_enter Try.func20, Try.ntmps20
  go_wp2_with (go_at_call 26; (with_reducible refine C.out.mono ?_); rintro e w' ⟨rfl, hb⟩)
  go_quiet (fail)
  go_wp2
  go_ret3
  exact ⟨rfl, bdN (hb.alloc hb.size _) _⟩
/-- what 'advance' makes of the cursor -/
theorem PS.move {w : World} {b T n : Nat} {idx : Int} {ct : ByteArray} {K S L : Nat → Int} (h : PS w b T n idx ct K S L) (i : Int) : PS (w.setCell ⟨b, 42, none⟩ (.int .i64 i)) b T n i ct K S L := by
  have ne : ∀ j, (⟨b, 42, none⟩ : Addr) ≠ ⟨T, j, none⟩ := fun j e => h.ne (by injection e)
  refine ⟨by rw [co (by simp)]; exact h.txt, by rw [co (by simp)]; exact h.tks, cs h.cur, by rw [fz]; exact h.free, h.ne, fun j hj => ?_⟩
  obtain ⟨h0, h1, h2, h3, h4⟩ := h.tk j hj
  exact ⟨by rw [co (ne _)]; exact h0, by rw [co (ne _)]; exact h1, by rw [co (ne _)]; exact h2, by rw [co (ne _)]; exact h3, by rw [co (ne _)]; exact h4⟩
set_option maxRecDepth 100000 in
theorem advance_c (b T n i B : Nat) (ct : ByteArray) (K S L : Nat → Int) (w : World) (h : PS w b T n i ct K S L) (hn : n ≤ 1048576) (hi : i ≤ n) (hB : B ≤ b) :
    Calls Try.prog 25 #[.pointer (some ⟨b, 0, none⟩)] w fun e w' => e = .returned (.tuple #[]) ∧ PS w' b T n ((min (i + 1) n : Nat) : Int) ct K S L ∧ Below B w w' := by
  have a1 := h.cur; have a2 := h.tks; have a3 := h.free
  have H := Lib.hid h
  clear h
  by_cases c : i < n
  · have e : min (i + 1) n = i + 1 := by omega
    have E := Lib.hid e
    clear e
    go_enter Try.func25, Try.ntmps25
    go_wp2
    go_quiet (fail)
    go_wp2
    go_end0
    refine ⟨rfl, ?_, ?_⟩
    · rw [E.out]
      have := (H.out.after (bdN (Below.refl _ w) nq)).move ((i : Int) + 1)
      push_cast
      exact this
    · exact (bdN (Below.refl _ w) nq).setCell hB _
  · have e : min (i + 1) n = i := by omega
    have E := Lib.hid e
    clear e
    go_enter Try.func25, Try.ntmps25
    go_wp2
    go_quiet (fail)
    go_wp2
    go_end0
    refine ⟨rfl, ?_, ?_⟩
    · rw [E.out]
      exact H.out.after (bdN (Below.refl _ w) nq)
    · exact bdN (Below.refl _ w) nq
end Go.Proofs.Ytephkamknkambaa
