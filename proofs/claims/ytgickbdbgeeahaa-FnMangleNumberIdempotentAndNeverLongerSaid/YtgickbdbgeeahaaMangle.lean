/- Proved: for every text the law FnMangleNumberIdempotentAndNeverLonger returns true, and its argument reads afterwards as before. No condition. -/
import Derived.Test.YtgickbdbgeeahaaRows
import Derived.WalkKit
import Derived.ProofKit
import Derived.OpenShut
import Derived.ShutString
import Derived.WalkLawsBesides
import Derived.WalkSpells
import Derived.Lib.Hide
import Derived.Laws.Externs
import Derived.Deep.QuietTactic
import Derived.BigQuiet
namespace Go.Proofs.Ytgickbdbgeeahaa.fnMangleNumberIdempotentAndNeverLonger
open Go.ChangeShapes Go.WideShapes Go.ChangeAt Go.RowKit
open Go.ChangeMaps (open_string shut_string)
set_option linter.unusedVariables false
theorem run9 (s : ByteArray) (c : Int) (w : World) : (callFunc 9 #[.string s, .int .u8 c]).run Try.prog w = .ok (.value (.int .i64 (firstIdx s c.toNat.toUInt8))) w := by
  rw [run_callFunc_extern (e := Extern.BytealgIndexByte.indexByte) Try.func9 (by kernel_rfl) (by kernel_rfl) (by kernel_rfl) (by kernel_rfl), run_indexByte_string]
  rfl
theorem first_no (s : ByteArray) (c : UInt8) (h : ∀ i (hi : i < s.size), s[i] ≠ c) : firstIdx s c = -1 := by
  unfold firstIdx
  have : (List.range s.size).find? (fun i => s[i]! == c) = none := by
    rw [List.find?_eq_none]
    intro i hi
    rw [List.mem_range] at hi
    simp only [beq_iff_eq]
    rw [getElem!_pos s i hi]
    exact h i hi
  rw [this]
theorem first_at (s : ByteArray) (c : UInt8) (d : Nat) (hd : d < s.size) (h1 : s[d] = c) (h : ∀ i (hi : i < s.size), i < d → s[i] ≠ c) : firstIdx s c = d := by
  unfold firstIdx
  have : (List.range s.size).find? (fun i => s[i]! == c) = some d := by
    rw [List.find?_range_eq_some]
    refine ⟨by rw [getElem!_pos s d hd, h1]; simp, by simpa using hd, ?_⟩
    intro j hj
    rw [getElem!_pos s j (by omega)]
    simpa using h j (by omega) hj
  rw [this]
theorem idx_c (s : ByteArray) (w : World) : Calls Try.prog 7 #[.string s, .int .u8 46] w fun e w' => e = .returned (.int .i64 (firstIdx s 46)) ∧ w = w' := by
  have k := run9
  go_enter Try.func7, Try.ntmps7
  go_wp2
  go_ret
  exact ⟨rfl, rfl⟩
structure Pre (s u : ByteArray) (d : Nat) : Prop where
  lo : d + 1 ≤ u.size
  hi : u.size ≤ s.size
  same : ∀ i (h : i < u.size) (h2 : i < s.size), u[i] = s[i]
  tail : ∀ i (h : i < s.size), u.size ≤ i → s[i] = 48
theorem pre_cut {s u : ByteArray} {d : Nat} (h : Pre s u d) (hd : d < s.size) (h46 : s[d] = 46) (hl : u[u.size - 1]'(by have := h.lo; omega) = 48) : Pre s (u.extract 0 (u.size - 1)) d := by
  have l := h.lo
  have hi := h.hi
  have hsz : (u.extract 0 (u.size - 1)).size = u.size - 1 := by simp
  have hne : u.size ≠ d + 1 := by
    intro e
    have := h.same (u.size - 1) (by omega) (by omega)
    rw [hl] at this
    have e2 : u.size - 1 = d := by omega
    simp only [e2] at this
    rw [h46] at this
    exact absurd this (by decide)
  refine ⟨by omega, by omega, ?_, ?_⟩
  · intro i h1 h2
    simp only [ByteArray.getElem_extract]
    have := h.same (0 + i) (by omega) (by omega)
    simpa using this
  · intro i h1 h2
    by_cases c : u.size ≤ i
    · exact h.tail i h1 c
    · have e : i = u.size - 1 := by omega
      subst e
      rw [← h.same (u.size - 1) (by omega) h1]; exact hl
/-- trailing zeros off -/
def strip (l : List UInt8) : List UInt8 := (l.reverse.dropWhile (· == 48)).reverse
def dig (c : UInt8) : Bool := 48 ≤ c && c ≤ 57
def sgn (c : UInt8) : Bool := c == 43 || c == 45
/-- what becomes of p . q (no dot in p) -/
def fin (p q : List UInt8) : List UInt8 :=
  if q = [] then (if p = [] ∨ p = [43] ∨ p = [45] then p ++ [48] else p)
  else match p, q with
    | [48], c :: r => if dig c then 46 :: c :: r else [48] ++ 46 :: c :: r
    | [s, 48], c :: r => if sgn s && dig c then s :: 46 :: c :: r else [s, 48] ++ 46 :: c :: r
    | p, q => p ++ 46 :: q
def pre (l : List UInt8) : List UInt8 := l.takeWhile (· != 46)
def post (l : List UInt8) : List UInt8 := l.dropWhile (· != 46)
def mg (l : List UInt8) : List UInt8 :=
  match post l with
  | [] => l
  | _ :: q => fin (pre l) (strip q)
theorem pre_no (l : List UInt8) : ∀ x ∈ pre l, x ≠ 46 := by
  unfold pre
  induction l with
  | nil => intro x hx; simp at hx
  | cons a l ih =>
    intro x hx
    rw [List.takeWhile_cons] at hx
    by_cases h : (a != 46) = true
    · rw [if_pos h] at hx
      rcases List.mem_cons.1 hx with e | e
      · subst e; simpa using h
      · exact ih x e
    · rw [if_neg h] at hx; simp at hx
theorem split_no {p : List UInt8} (h : ∀ x ∈ p, x ≠ 46) (q : List UInt8) : pre (p ++ 46 :: q) = p ∧ post (p ++ 46 :: q) = 46 :: q := by
  induction p with
  | nil => simp [pre, post]
  | cons a p ih =>
    have ha : (a != 46) = true := by simpa using h a (by simp)
    have := ih (fun x hx => h x (by simp [hx]))
    unfold pre post at *
    simp only [List.cons_append, List.takeWhile_cons, List.dropWhile_cons, ha, if_true, this, and_self]
theorem no_dot {p : List UInt8} (h : ∀ x ∈ p, x ≠ 46) : mg p = p := by
  have : post p = [] := by
    unfold post
    induction p with
    | nil => rfl
    | cons a p ih =>
      have ha : (a != 46) = true := by simpa using h a (by simp)
      rw [List.dropWhile_cons, if_pos ha]
      exact ih (fun x hx => h x (by simp [hx]))
  unfold mg; rw [this]
theorem strip_strip (l : List UInt8) : strip (strip l) = strip l := by
  unfold strip
  rw [List.reverse_reverse]
  congr 1
  generalize l.reverse = m
  induction m with
  | nil => rfl
  | cons a m ih =>
    by_cases h : (a == 48) = true
    · rw [List.dropWhile_cons, if_pos h]; exact ih
    · rw [List.dropWhile_cons, if_neg h, List.dropWhile_cons, if_neg h]
theorem strip_len (l : List UInt8) : (strip l).length ≤ l.length := by
  unfold strip
  rw [List.length_reverse]
  have := (List.dropWhile_sublist (· == 48) (l := l.reverse)).length_le
  simpa using this
theorem mg_dot {p : List UInt8} (h : ∀ x ∈ p, x ≠ 46) (q : List UInt8) : mg (p ++ 46 :: q) = fin p (strip q) := by
  obtain ⟨h1, h2⟩ := split_no h q
  unfold mg; rw [h1, h2]
theorem fin_idem {p q : List UInt8} (h : ∀ x ∈ p, x ≠ 46) (hq : strip q = q) : mg (fin p q) = fin p q := by
  by_cases hq0 : q = []
  · unfold fin; rw [if_pos hq0]
    split
    · apply no_dot
      intro x hx
      rw [List.mem_append] at hx
      rcases hx with hx | hx
      · exact h x hx
      · simp at hx; subst hx; decide
    · exact no_dot h
  · have plain : ∀ p' : List UInt8, (∀ x ∈ p', x ≠ 46) → fin p' q = p' ++ 46 :: q → mg (p' ++ 46 :: q) = p' ++ 46 :: q := by
      intro p' h' e
      rw [mg_dot h', hq, e]
    obtain ⟨c, r, rfl⟩ : ∃ c r, q = c :: r := by cases q with | nil => exact (hq0 rfl).elim | cons c r => exact ⟨c, r, rfl⟩
    have e0 : fin [] (c :: r) = [] ++ 46 :: c :: r := by unfold fin; simp
    have e1 : ∀ s, sgn s = true → fin [s] (c :: r) = [s] ++ 46 :: c :: r := by
      intro s hs
      unfold fin
      rw [if_neg (by simp)]
      split
      · rename_i h1 h2; simp at h1; subst h1; simp [sgn] at hs
      · rename_i heq _; simp at heq
      · rfl
    by_cases c1 : p = [48] ∧ dig c = true
    · obtain ⟨rfl, hd⟩ := c1
      have : fin [48] (c :: r) = [] ++ 46 :: c :: r := by unfold fin; simp [hd]
      rw [this]
      exact plain [] (by simp) e0
    · by_cases c2 : ∃ s, p = [s, 48] ∧ sgn s = true ∧ dig c = true
      · obtain ⟨s, rfl, hs, hd⟩ := c2
        have : fin [s, 48] (c :: r) = [s] ++ 46 :: c :: r := by unfold fin; simp [hd, hs]
        rw [this]
        exact plain [s] (fun x hx => by simp at hx; subst hx; exact h _ (by simp)) (e1 s hs)
      · have : fin p (c :: r) = p ++ 46 :: c :: r := by
          unfold fin
          rw [if_neg (by simp)]
          split
          · rename_i heq; simp at heq; obtain ⟨rfl, rfl⟩ := heq
            rw [if_neg (fun hd => c1 ⟨rfl, hd⟩)]
          · rename_i heq; simp at heq; obtain ⟨rfl, rfl⟩ := heq
            rw [if_neg (fun hd => c2 ⟨_, rfl, by simp at hd; exact hd⟩)]
          · rfl
        rw [this]
        exact plain p h this
theorem mg_idem (l : List UInt8) : mg (mg l) = mg l := by
  cases hp : post l with
  | nil =>
    have : mg l = l := by unfold mg; rw [hp]
    rw [this, this]
  | cons d q =>
    have : mg l = fin (pre l) (strip q) := by unfold mg; rw [hp]
    rw [this]
    exact fin_idem (pre_no l) (strip_strip q)
theorem mg_len (l : List UInt8) : (mg l).length ≤ l.length := by
  cases hp : post l with
  | nil => have : mg l = l := by unfold mg; rw [hp]
           rw [this]; exact Nat.le_refl _
  | cons d q =>
    have e : mg l = fin (pre l) (strip q) := by unfold mg; rw [hp]
    have hl : l.length = (pre l).length + 1 + q.length := by
      have : l = pre l ++ post l := (List.takeWhile_append_dropWhile).symm
      have h2 := congrArg List.length this
      rw [List.length_append, hp] at h2
      simp at h2; omega
    have hs := strip_len q
    rw [e, hl]
    unfold fin
    split
    · split
      · simp
      · omega
    · split
      · rename_i h1 heq; rw [h1]; rw [heq] at hs; simp at hs ⊢; split <;> simp <;> omega
      · rename_i h1 heq; rw [h1]; rw [heq] at hs; simp at hs ⊢; split <;> simp <;> omega
      · simp; omega

def bt (u : ByteArray) (i : Nat) : Int := if h : i < u.size then (u[i].toNat : Int) else -1
theorem bt_at (u : ByteArray) (i : Nat) (h : i < u.size) : bt u i = (u[i].toNat : Int) := dif_pos h
def mgB (s : ByteArray) : ByteArray := ⟨(mg s.data.toList).toArray⟩
def POST (s : ByteArray) (w : World) (e : Ending) (w' : World) : Prop := e = .returned (.tuple #[.string (mgB s), .bool (!(mgB s).toList == s.toList)]) ∧ ∃ n, w' = w.drewN n
theorem post_of {s out : ByteArray} {w : World} (h : out = mgB s) (n : Nat) : POST s w (.returned (.tuple #[.string out, .bool (!out.toList == s.toList)])) (w.drewN n) := by
  subst h; exact ⟨rfl, n, rfl⟩
theorem len_eq (u : ByteArray) : u.data.toList.length = u.size := by show u.data.toList.length = u.data.size; rw [Array.length_toList]
theorem bt_list (u : ByteArray) (i : Nat) : bt u i = match u.data.toList[i]? with | some c => (c.toNat : Int) | none => -1 := by
  unfold bt
  by_cases h : i < u.size
  · rw [dif_pos h]
    have h2 : i < u.data.toList.length := by rw [len_eq]; exact h
    rw [List.getElem?_eq_getElem h2]
    rfl
  · rw [dif_neg h]
    have h2 : u.data.toList.length ≤ i := by rw [len_eq]; omega
    rw [List.getElem?_eq_none h2]
theorem get_eq (u : ByteArray) (i : Nat) (h : i < u.size) (h2 : i < u.data.toList.length) : u.data.toList[i] = u[i] := rfl
theorem u_list {s u : ByteArray} {d : Nat} (P : Pre s u d) : u.data.toList = s.data.toList.take u.size := by
  apply List.ext_getElem
  · have := P.hi
    rw [List.length_take, len_eq, len_eq]; omega
  · intro i h1 h2
    rw [len_eq] at h1
    rw [List.getElem_take]
    have := P.hi
    exact P.same i h1 (by omega)
theorem strip_of {a b : List UInt8} (hb : ∀ x ∈ b, x = 48) (ha : ∀ x, a.getLast? = some x → x ≠ 48) : strip (a ++ b) = a := by
  unfold strip
  rw [List.reverse_append]
  have h1 : ∀ (c : List UInt8) (m : List UInt8), (∀ x ∈ c, x = 48) → (c ++ m).dropWhile (· == 48) = m.dropWhile (· == 48) := by
    intro c m hc
    induction c with
    | nil => rfl
    | cons x c ih =>
      have hx : (x == 48) = true := by simpa using hc x (by simp)
      rw [List.cons_append, List.dropWhile_cons, if_pos hx]
      exact ih (fun y hy => hc y (by simp [hy]))
  rw [h1 _ _ (fun x hx => hb x (by simpa using hx))]
  have h2 : a.reverse.dropWhile (· == 48) = a.reverse := by
    cases hr : a.reverse with
    | nil => rfl
    | cons x m =>
      have : a.getLast? = some x := by
        have : a = (x :: m).reverse := by rw [← hr]; simp
        rw [this]; simp
      have hx := ha x this
      rw [List.dropWhile_cons, if_neg (by simpa using hx)]
  rw [h2]; simp
theorem mg_eq {s u : ByteArray} {d : Nat} (P : Pre s u d) (hd : d < s.size) (h46 : s[d] = 46) (hno : ∀ i (hi : i < s.size), i < d → s[i] ≠ 46) (hz : ¬ u[u.size - 1]'(by have := P.lo; omega) = 48) :
    mg s.data.toList = fin (u.data.toList.take d) (u.data.toList.drop (d + 1)) ∧ u.data.toList = u.data.toList.take d ++ 46 :: u.data.toList.drop (d + 1) ∧ (∀ x ∈ u.data.toList.take d, x ≠ 46) := by
  have hul := u_list P
  have lo := P.lo
  have hi := P.hi
  have hL : d < s.data.toList.length := by rw [len_eq]; exact hd
  have sp : s.data.toList = s.data.toList.take d ++ 46 :: s.data.toList.drop (d + 1) := by
    have := List.take_append_drop d s.data.toList
    rw [List.drop_eq_getElem_cons hL, get_eq s d hd, h46] at this
    exact this.symm
  have tk : u.data.toList.take d = s.data.toList.take d := by
    rw [hul, List.take_take, Nat.min_eq_left (by omega)]
  have no : ∀ x ∈ s.data.toList.take d, x ≠ 46 := by
    intro x hx
    obtain ⟨i, hi1, rfl⟩ := List.getElem_of_mem hx
    rw [List.length_take] at hi1
    rw [List.getElem_take]
    exact hno i (by omega) (by omega)
  have dr : s.data.toList.drop (d + 1) = u.data.toList.drop (d + 1) ++ s.data.toList.drop u.size := by
    rw [hul, List.drop_take]
    have := List.take_append_drop (u.size - (d + 1)) (s.data.toList.drop (d + 1))
    rw [List.drop_drop] at this
    rw [show d + 1 + (u.size - (d + 1)) = u.size by omega] at this
    exact this.symm
  refine ⟨?_, ?_, by rw [tk]; exact no⟩
  · have e := mg_dot no (s.data.toList.drop (d + 1))
    rw [← sp] at e
    rw [e, tk]
    congr 1
    rw [dr]
    apply strip_of
    · intro x hx
      obtain ⟨i, hi1, rfl⟩ := List.getElem_of_mem hx
      rw [List.length_drop, len_eq] at hi1
      rw [List.getElem_drop]
      exact P.tail (u.size + i) (by omega) (by omega)
    · intro x hx
      rw [List.getLast?_drop] at hx
      split at hx
      · cases hx
      · rw [List.getLast?_eq_getElem?, len_eq] at hx
        intro e
        apply hz
        rw [List.getElem?_eq_getElem (by rw [len_eq]; omega)] at hx
        have := Option.some.inj hx
        rw [get_eq u _ (by omega)] at this
        rw [this, e]
  · have : u.data.toList[d]'(by rw [len_eq]; omega) = 46 := by
      rw [get_eq u d (by omega), P.same d (by omega) hd, h46]
    have h2 := List.take_append_drop d u.data.toList
    rw [List.drop_eq_getElem_cons (by rw [len_eq]; omega), this] at h2
    exact h2.symm
theorem out_eq {s out : ByteArray} (h : out.data.toList = mg s.data.toList) : out = mgB s := by
  apply bytes_inj
  rw [h]; simp [mgB]
theorem ext_list (u : ByteArray) (a b : Nat) : (u.extract a b).data.toList = (u.data.toList.drop a).take (b - a) := by
  rw [ByteArray.data_extract, Array.toList_extract, List.extract_eq_take_drop]
section
variable {s u : ByteArray} {d : Nat} (P : Pre s u d) (hd : d < s.size) (h46 : s[d] = 46) (hno : ∀ i (hi : i < s.size), i < d → s[i] ≠ 46) (hz : ¬ u[u.size - 1]'(by have := P.lo; omega) = 48)
include P hd h46 hno hz
theorem close_A1 (hA : u.size = d + 1) (h : (u.extract 0 d).toList = [] ∨ (u.extract 0 d).toList = [43] ∨ (u.extract 0 d).toList = [45]) : u.extract 0 d ++ ⟨#[48]⟩ = mgB s := by
  obtain ⟨e1, e2, e3⟩ := mg_eq P hd h46 hno hz
  rw [ByteArray.toList_eq, ext_list] at h
  simp only [List.drop_zero, Nat.sub_zero] at h
  apply out_eq
  rw [e1, ByteArray.data_append, Array.toList_append, ext_list]
  simp only [List.drop_zero, Nat.sub_zero]
  rw [List.drop_of_length_le (by rw [len_eq]; omega)]
  unfold fin
  rw [if_pos rfl, if_pos h]
theorem close_A2 (hA : u.size = d + 1) (h : ¬ ((u.extract 0 d).toList = [] ∨ (u.extract 0 d).toList = [43] ∨ (u.extract 0 d).toList = [45])) : u.extract 0 d = mgB s := by
  obtain ⟨e1, e2, e3⟩ := mg_eq P hd h46 hno hz
  rw [ByteArray.toList_eq, ext_list] at h
  simp only [List.drop_zero, Nat.sub_zero] at h
  apply out_eq
  rw [e1, ext_list]
  simp only [List.drop_zero, Nat.sub_zero]
  rw [List.drop_of_length_le (by rw [len_eq]; omega)]
  unfold fin
  rw [if_pos rfl, if_neg h]
end
/-- a list with its first dot -/
theorem list_B1 {l p q : List UInt8} (e : l = p ++ 46 :: q) (hp : ∀ x ∈ p, x ≠ 46) (a c : UInt8) (r : List UInt8) (hl : l = a :: 46 :: c :: r) (ha : a ≠ 46) : p = [a] ∧ q = c :: r := by
  match p, e, hp with
  | [], e, _ => rw [hl] at e; simp at e; exact absurd e.1 ha
  | [x], e, _ => rw [hl] at e; simp at e; exact ⟨by rw [e.1], e.2.symm⟩
  | x :: y :: p, e, hp => rw [hl] at e; simp at e; exact absurd e.2.1.symm (hp y (by simp))
theorem list_B2 {l p q : List UInt8} (e : l = p ++ 46 :: q) (hp : ∀ x ∈ p, x ≠ 46) (a b c : UInt8) (r : List UInt8) (hl : l = a :: b :: 46 :: c :: r) (ha : a ≠ 46) (hb : b ≠ 46) : p = [a, b] ∧ q = c :: r := by
  match p, e, hp with
  | [], e, _ => rw [hl] at e; simp at e; exact absurd e.1 ha
  | [x], e, _ => rw [hl] at e; simp at e; exact absurd e.2.1 hb
  | [x, y], e, _ => rw [hl] at e; simp at e; exact ⟨by rw [e.1, e.2.1], e.2.2.symm⟩
  | x :: y :: z :: p, e, hp => rw [hl] at e; simp at e; exact absurd e.2.2.1.symm (hp z (by simp))
theorem bt_cons {u : ByteArray} {i : Nat} (h : 0 ≤ bt u i) : ∃ c : UInt8, u.data.toList[i]? = some c ∧ bt u i = (c.toNat : Int) := by
  rw [bt_list] at h ⊢
  cases e : u.data.toList[i]? with
  | none => rw [e] at h; simp at h
  | some c => exact ⟨c, rfl, rfl⟩
theorem u8_eq {c : UInt8} {k : UInt8} (h : (c.toNat : Int) = (k.toNat : Int)) : c = k := UInt8.toNat_inj.1 (by omega)
theorem dig_of {c : UInt8} (h1 : 48 ≤ (c.toNat : Int)) (h2 : (c.toNat : Int) ≤ 57) : dig c = true := by
  unfold dig; simp [UInt8.le_iff_toNat_le]; omega
theorem cons3 {l : List UInt8} {a b c : UInt8} (h0 : l[0]? = some a) (h1 : l[1]? = some b) (h2 : l[2]? = some c) : ∃ r, l = a :: b :: c :: r := by
  match l, h0, h1, h2 with
  | x :: y :: z :: r, h0, h1, h2 => simp at h0 h1 h2; exact ⟨r, by rw [h0, h1, h2]⟩
theorem cons4 {l : List UInt8} {a b c d : UInt8} (h0 : l[0]? = some a) (h1 : l[1]? = some b) (h2 : l[2]? = some c) (h3 : l[3]? = some d) : ∃ r, l = a :: b :: c :: d :: r := by
  match l, h0, h1, h2, h3 with
  | x :: y :: z :: v :: r, h0, h1, h2, h3 => simp at h0 h1 h2 h3; exact ⟨r, by rw [h0, h1, h2, h3]⟩
section
variable {s u : ByteArray} {d : Nat} (P : Pre s u d) (hd : d < s.size) (h46 : s[d] = 46) (hno : ∀ i (hi : i < s.size), i < d → s[i] ≠ 46) (hz : ¬ u[u.size - 1]'(by have := P.lo; omega) = 48)
include P hd h46 hno hz
theorem close_B1 (h0 : bt u 0 = 48) (h1 : bt u 1 = 46) (h2 : 48 ≤ bt u 2) (h3 : bt u 2 ≤ 57) : u.extract 1 u.size = mgB s := by
  obtain ⟨e1, e2, e3⟩ := mg_eq P hd h46 hno hz
  obtain ⟨a, ha, ea⟩ := bt_cons (u := u) (i := 0) (by omega)
  obtain ⟨b, hb, eb⟩ := bt_cons (u := u) (i := 1) (by omega)
  obtain ⟨c, hc, ec⟩ := bt_cons (u := u) (i := 2) (by omega)
  obtain rfl : a = 48 := u8_eq (by rw [← ea, h0]; rfl)
  obtain rfl : b = 46 := u8_eq (by rw [← eb, h1]; rfl)
  obtain ⟨r, hl⟩ := cons3 ha hb hc
  obtain ⟨hp, hq⟩ := list_B1 e2 e3 48 c r hl (by decide)
  apply out_eq
  rw [e1, hp, hq, ext_list, hl]
  have hs : r.length + 3 = u.size := by rw [← len_eq, hl]; simp
  have hd2 : dig c = true := dig_of (by omega) (by omega)
  rw [List.take_of_length_le (by simp; omega)]
  unfold fin
  simp [hd2]
theorem close_B2 (h0 : bt u 0 = 43 ∨ bt u 0 = 45) (h1 : bt u 1 = 48) (h2 : bt u 2 = 46) (h3 : 48 ≤ bt u 3) (h4 : bt u 3 ≤ 57) : u.extract 0 1 ++ u.extract 2 u.size = mgB s := by
  obtain ⟨e1, e2, e3⟩ := mg_eq P hd h46 hno hz
  obtain ⟨a, ha, ea⟩ := bt_cons (u := u) (i := 0) (by omega)
  obtain ⟨b, hb, eb⟩ := bt_cons (u := u) (i := 1) (by omega)
  obtain ⟨c, hc, ec⟩ := bt_cons (u := u) (i := 2) (by omega)
  obtain ⟨f, hf, ef⟩ := bt_cons (u := u) (i := 3) (by omega)
  obtain rfl : b = 48 := u8_eq (by rw [← eb, h1]; rfl)
  obtain rfl : c = 46 := u8_eq (by rw [← ec, h2]; rfl)
  have hsg : sgn a = true := by
    rcases h0 with h | h
    · obtain rfl : a = 43 := u8_eq (by rw [← ea, h]; rfl)
      rfl
    · obtain rfl : a = 45 := u8_eq (by rw [← ea, h]; rfl)
      rfl
  obtain ⟨r, hl⟩ := cons4 ha hb hc hf
  have hne : a ≠ 46 := by intro e; subst e; exact absurd hsg (by decide)
  obtain ⟨hp, hq⟩ := list_B2 e2 e3 a 48 f r hl hne (by decide)
  apply out_eq
  rw [e1, hp, hq, ByteArray.data_append, Array.toList_append, ext_list, ext_list, hl]
  have hs : r.length + 4 = u.size := by rw [← len_eq, hl]; simp
  have hd2 : dig f = true := dig_of (by omega) (by omega)
  rw [List.take_of_length_le (l := List.drop 2 _) (by simp; omega)]
  unfold fin
  simp [hd2, hsg]
theorem close_B0 (hA : ¬ u.size = d + 1) (n1 : ¬ (bt u 0 = 48 ∧ bt u 1 = 46 ∧ 48 ≤ bt u 2 ∧ bt u 2 ≤ 57)) (n2 : ¬ ((bt u 0 = 43 ∨ bt u 0 = 45) ∧ bt u 1 = 48 ∧ bt u 2 = 46 ∧ 48 ≤ bt u 3 ∧ bt u 3 ≤ 57)) : u = mgB s := by
  obtain ⟨e1, e2, e3⟩ := mg_eq P hd h46 hno hz
  apply out_eq
  rw [e1]
  have lo := P.lo
  have hq : u.data.toList.drop (d + 1) ≠ [] := by
    intro h
    have := congrArg List.length h
    rw [List.length_drop, len_eq] at this
    simp at this; omega
  have digs : ∀ c : UInt8, dig c = true → 48 ≤ (c.toNat : Int) ∧ (c.toNat : Int) ≤ 57 := by
    intro c hc; unfold dig at hc; simp [UInt8.le_iff_toNat_le] at hc; omega
  have key : fin (u.data.toList.take d) (u.data.toList.drop (d + 1)) = u.data.toList.take d ++ 46 :: u.data.toList.drop (d + 1) := by
    generalize u.data.toList.take d = p at *
    generalize u.data.toList.drop (d + 1) = q at *
    unfold fin
    rw [if_neg hq]
    split
    · rename_i c r
      by_cases hc : dig c = true
      · exfalso
        apply n1
        obtain ⟨a1, a2⟩ := digs c hc
        rw [bt_list, bt_list, bt_list, e2]
        exact ⟨rfl, rfl, a1, a2⟩
      · rw [if_neg hc]
    · rename_i x c r
      by_cases hc : (sgn x && dig c) = true
      · exfalso
        apply n2
        rw [Bool.and_eq_true] at hc
        obtain ⟨a1, a2⟩ := digs c hc.2
        have hx : (x.toNat : Int) = 43 ∨ (x.toNat : Int) = 45 := by
          have := hc.1
          unfold sgn at this
          simp at this
          rcases this with h | h <;> subst h
          · exact Or.inl rfl
          · exact Or.inr rfl
        rw [bt_list, bt_list, bt_list, bt_list, e2]
        exact ⟨hx, rfl, rfl, a1, a2⟩
      · rw [if_neg hc]
    · rfl
  rw [key]; exact e2
end
set_option maxHeartbeats 4000000 in
theorem mangle_dot (s : ByteArray) (d : Nat) (w : World) (hs : s.size ≤ 1048576) (hd : d < s.size) (h46 : Hid (s[d] = 46)) (hno : Hid (∀ i (hi : i < s.size), i < d → s[i] ≠ 46)) :
    Calls Try.prog 6 #[.string s] w (POST s w) := by
  have hf := first_at s 46 d hd h46.out hno.out
  go_enter Try.func6, Try.ntmps6
  go_wp2_with (go_at_call 7; refine (idx_c _ _).mono ?_; rintro e w' ⟨rfl, rfl⟩)
  clear hf
  go_loop [0] (fun v => ∃ u : ByteArray, v = .string u ∧ u.size ≤ s.size ∧ d + 1 ≤ u.size ∧ Hid (Pre s u d)) (fun v => match v with | .string u => u.size | _ => 0)
  case atStart => exact ⟨s, rfl, by omega, by omega, Lib.hid ⟨by omega, by omega, fun _ _ _ => rfl, fun i h1 h2 => by omega⟩⟩
  case round =>
    obtain ⟨u, rfl, hu1, hu2, hP⟩ := hrel
    have hpos : 0 < u.size := by omega
    have h1 : u.size - 1 < u.size := by omega
    by_cases hz : u[u.size - 1] = 48
    · have HN := Lib.hid (pre_cut hP.out hd h46.out hz)
      go_wp2
      have hsz : (u.extract 0 (u.size - 1)).size = u.size - 1 := by simp
      exact ⟨⟨_, rfl, by omega, HN.out.lo, Lib.hid HN.out⟩, by show (u.extract 0 (u.size - 1)).size < u.size; omega⟩
    · have HZ := Lib.hid hz
      have hz' : ((u[u.size - 1].toNat : Int) == 48) = false := by
        rw [beq_eq_false_iff_ne]; intro h; apply hz; apply UInt8.toNat_inj.1; show _ = 48; omega
      clear hz
      by_cases hA : u.size = d + 1
      · have hA' : ((d : Int) + 1 == (u.size : Int)) = true := by rw [beq_iff_eq]; omega
        have HA := Lib.hid hA
        clear hA
        go_wp2
        · go_ret2
          exact post_of (close_A1 hP.out hd h46.out hno.out HZ.out HA.out (Or.inl (by assumption))) 0
        · go_ret2
          exact post_of (close_A1 hP.out hd h46.out hno.out HZ.out HA.out (Or.inr (Or.inl (by assumption)))) 0
        · go_ret2
          exact post_of (close_A1 hP.out hd h46.out hno.out HZ.out HA.out (by simp_all)) 0
        · go_ret2
          exact post_of (close_A2 hP.out hd h46.out hno.out HZ.out HA.out (by simp_all)) 0
      · have hA' : ((d : Int) + 1 == (u.size : Int)) = false := by rw [beq_eq_false_iff_ne]; omega
        have b0 := Lib.hid (bt_at u 0 (by omega))
        have b1 := Lib.hid (bt_at u 1 (by omega))
        by_cases h4 : 4 ≤ u.size
        · have b2 := Lib.hid (bt_at u 2 (by omega))
          have b3 := Lib.hid (bt_at u 3 (by omega))
          go_wp2
          all_goals
            have e0 := b0.out
            have e1 := b1.out
            have e2 := b2.out
            have e3 := b3.out
            first
              | (go_ret2; exact post_of (close_B0 hP.out hd h46.out hno.out HZ.out hA (by omega) (by omega)) 0)
              | (go_ret2; exact post_of (close_B1 hP.out hd h46.out hno.out HZ.out (by omega) (by omega) (by omega) (by omega)) 0)
              | (have H := Lib.hid (close_B2 hP.out hd h46.out hno.out HZ.out (by omega) (by omega) (by omega) (by omega) (by omega)); clear e0 e1 e2 e3; go_quiet (fail); go_wp2; go_ret2; exact post_of H.out _)
        · by_cases h3 : 3 ≤ u.size
          · have b2 := Lib.hid (bt_at u 2 (by omega))
            have b3 := Lib.hid (show bt u 3 = -1 from dif_neg (by omega))
            go_wp2
            all_goals
              have e0 := b0.out
              have e1 := b1.out
              have e2 := b2.out
              have e3 := b3.out
              first
                | (go_ret2; exact post_of (close_B0 hP.out hd h46.out hno.out HZ.out hA (by omega) (by omega)) 0)
                | (go_ret2; exact post_of (close_B1 hP.out hd h46.out hno.out HZ.out (by omega) (by omega) (by omega) (by omega)) 0)
                | (have H := Lib.hid (close_B2 hP.out hd h46.out hno.out HZ.out (by omega) (by omega) (by omega) (by omega) (by omega)); clear e0 e1 e2 e3; go_quiet (fail); go_wp2; go_ret2; exact post_of H.out _)
          · have b2 := Lib.hid (show bt u 2 = -1 from dif_neg (by omega))
            have b3 := Lib.hid (show bt u 3 = -1 from dif_neg (by omega))
            go_wp2
            all_goals
              have e0 := b0.out
              have e1 := b1.out
              have e2 := b2.out
              have e3 := b3.out
              first
                | (go_ret2; exact post_of (close_B0 hP.out hd h46.out hno.out HZ.out hA (by omega) (by omega)) 0)
                | (go_ret2; exact post_of (close_B1 hP.out hd h46.out hno.out HZ.out (by omega) (by omega) (by omega) (by omega)) 0)
                | (have H := Lib.hid (close_B2 hP.out hd h46.out hno.out HZ.out (by omega) (by omega) (by omega) (by omega) (by omega)); clear e0 e1 e2 e3; go_quiet (fail); go_wp2; go_ret2; exact post_of H.out _)
set_option maxHeartbeats 1000000 in
theorem mangle_no (s : ByteArray) (w : World) (hno : Hid (∀ i (hi : i < s.size), s[i] ≠ 46)) :
    Calls Try.prog 6 #[.string s] w (POST s w) := by
  have hf := first_no s 46 hno.out
  go_enter Try.func6, Try.ntmps6
  go_wp2_with (go_at_call 7; refine (idx_c _ _).mono ?_; rintro e w' ⟨rfl, rfl⟩)
  have hm : s = mgB s := by
    apply out_eq
    rw [no_dot]
    intro x hx
    obtain ⟨i, hi, rfl⟩ := List.getElem_of_mem hx
    rw [len_eq] at hi
    exact hno.out i hi
  have H : POST s w (.returned (.tuple #[.string s, .bool false])) w := by
    refine ⟨?_, 0, rfl⟩
    rw [← hm]; simp
  go_ret2
  exact H
theorem mangle_c (s : ByteArray) (w : World) (hs : s.size ≤ 1048576) : Calls Try.prog 6 #[.string s] w (POST s w) := by
  by_cases h : ∃ d, ∃ hd : d < s.size, s[d] = 46 ∧ ∀ i (hi : i < s.size), i < d → s[i] ≠ 46
  · obtain ⟨d, hd, h1, h2⟩ := h
    exact mangle_dot s d w hs hd (Lib.hid h1) (Lib.hid h2)
  · refine mangle_no s w (Lib.hid ?_)
    intro i
    induction i using Nat.strongRecOn with
    | _ i ih =>
      intro hi e
      exact h ⟨i, hi, e, fun j hj hji => ih j hji hj⟩
theorem zz_c (s : ByteArray) (w : World) (hs : s.size ≤ 1048576) : Calls Try.prog 5 #[.string s] w (POST s w) := by
  go_enter Try.func5, Try.ntmps5
  go_wp2_with (go_at_call 6; refine (mangle_c _ _ hs).mono ?_; rintro e w' ⟨rfl, n, rfl⟩)
  go_ret2
  exact ⟨rfl, n, rfl⟩
theorem mgB_idem (s : ByteArray) : mgB (mgB s) = mgB s := by
  unfold mgB
  simp [mg_idem]
theorem mgB_size (s : ByteArray) : (mgB s).size ≤ s.size := by
  have := mg_len s.data.toList
  rw [len_eq] at this
  have h2 : (mgB s).data.toList = mg s.data.toList := by simp [mgB]
  rw [← len_eq (mgB s), h2]; exact this
theorem ret_bool {a b : Bool} (h : a = b) : Ending.returned (.bool a) = .returned (.bool b) := by rw [h]
theorem grownN {w : World} (n : Nat) : Grown w (w.drewN n) := Grown.refl w
set_option maxHeartbeats 1000000 in
theorem walk (a0 : ByteArray) (w0 : a0.size ≤ maxLen) (w : World) :
    Calls Try.prog 3 #[.string a0] w fun e w' => e = .returned (.bool true) ∧ Grown w w' := by
  unfold maxLen at w0
  by_cases hl : a0.size ≤ 1048576
  · have hsz := mgB_size a0
    have hid := Lib.hid (mgB_idem a0)
    go_enter Try.func3, Try.ntmps3
    go_wp2_with (first | (go_at_call 5; refine (zz_c a0 _ hl).mono ?_; rintro e w' ⟨rfl, n, rfl⟩) | (go_at_call 5; refine (zz_c (mgB a0) _ (by omega)).mono ?_; rintro e w' ⟨rfl, m, rfl⟩; rw [hid.out]) | go_in)
    go_ret
    exact ⟨rfl, grownN _⟩
  · go_enter Try.func3, Try.ntmps3
    go_wp2
    all_goals
      go_ret
      exact ⟨rfl, Grown.refl _⟩

theorem own : ownKnob Try.prog.godebug = none := by kernel_rfl
/-! ### THE ROW's STEP: WRITTEN OUT: LEAVE IT -/
set_option maxRecDepth 100000 in
theorem lifted (os : Os) (started : os.Started) (H : Type) (enc : TypeId × Value → H) :
    ReturnsInHanded {} Try.checked os 3 .any (Rows.fnMangleNumberIdempotentAndNeverLongerSpec.pre6 enc Try.prog Try.f3 Rows.fnMangleNumberIdempotentAndNeverLongerRow.domain false) (Rows.fnMangleNumberIdempotentAndNeverLongerSpec.post enc Try.prog Try.f3 false true false false) := by
  refine returnsInHanded_of_change (C := Try.checked) own started (by kernel_rfl) Try.func3
    (ChangeSpec.witness6 (enc := enc) (C := Try.checked) false ⟨#[], #[.string ByteArray.empty], []⟩ 8 (by kernel_rfl) (by kernel_rfl) (by kernel_rfl) (by kernel_rfl)) ?_
  intro W base args ds gs before hval0 hW hcnd _
  have hval : ∀ (j : Nat) t v, Try.f3.params[j]? = some t → args[j]? = some v → Value.okWide Try.prog W .any base t v := hval0
  have hW' := hW
  obtain ⟨p, q, hA0, hV, rfl, hfz, hnd⟩ := hW
  have hA : DataW.TrodAll enc Try.prog W 0 (fun _ => true) true Try.f3.params.toList args.toList ds p := hA0
  rw [Try.params3] at hA hval
  obtain ⟨v0, vs0, d0, ds0, p0, q0, hargs, rfl, rfl, h0, r0⟩ := trodAll_cons hA
  obtain ⟨rfl, rfl, rfl⟩ := trodAll_nil r0
  obtain rfl : args = #[v0] := by cases args; simp_all
  obtain ⟨rfl, rfl⟩ := trodVars_none hV
  obtain ⟨a0, rfl, rfl, rfl, w0⟩ := open_string Try.underlying9 (hval 0 9 v0 rfl rfl) h0
  clear hA0 hval0
  simp only [List.append_nil] at hW'
  refine (walk a0 w0 W).mono fun e W' ⟨he, hg⟩ => ?_
  subst he
  exact ⟨_, rfl, post_of_same (pa := []) (pv := []) hW' (fun _ _ _ => (trodAll_cons_mk (shut_bool Try.underlying4 _) trodAll_mk0)) (fun sp _ => (trodAll_cons_mk (shut_string Try.underlying9 w0) trodAll_mk0)) (fun _ _ => rfl) rfl
    (hg.frame _) hg.2.1 (ok_one (by kernel_rfl) rfl (okWide_bool_mk Try.underlying4 _))⟩

theorem over : Rows.fnMangleNumberIdempotentAndNeverLongerRow.holds Try.pinned (OpenSpec.ofChange Rows.fnMangleNumberIdempotentAndNeverLongerSpec) :=
  OpenClaim.holds_of_wide 3 Try.f3 rfl rfl rfl rfl rfl rfl rfl ⟨rfl, rfl, rfl, rfl, rfl⟩ rfl rfl rfl rfl rfl (by kernel_rfl) Try.func3 (by kernel_rfl)
    (of_decide_eq_true (by kernel_rfl)) (by unfold Func.isWrapper; first | (rw [if_pos (by decide +kernel)]; kernel_rfl) | (rw [if_neg (by decide +kernel)]; exact ⟨rfl, rfl⟩))
    (fun os started H enc _ => lifted os started H enc)

/-- ████ THE STATEMENT ████ -/
theorem proved : Rows.FnMangleNumberIdempotentAndNeverLongerSaid :=
  over
#print axioms proved
end Go.Proofs.Ytgickbdbgeeahaa.fnMangleNumberIdempotentAndNeverLonger
