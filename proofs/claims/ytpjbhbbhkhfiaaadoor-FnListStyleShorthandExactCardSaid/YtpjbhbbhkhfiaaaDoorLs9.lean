/- The law's folding against strings.ToLower's. -/
import Derived.Test.YtpjbhbbhkhfiaaaDoorLs7
set_option linter.unusedVariables false
set_option linter.unusedSimpArgs false
namespace Go.Proofs.YtpjbhbbhkhfiaaaDoor
open Go.RowKit
open Go.Lib
theorem lookupIdx_in (T : Array CaseRow) (r : Int) : ∀ (f lo hi i : Nat), lookupIdx T r f lo hi = some i → lo ≤ i ∧ i < hi ∧ ((T.getD i (0, 0, 0, 0, 0)).1 : Int) ≤ r ∧ r ≤ ((T.getD i (0, 0, 0, 0, 0)).2.1 : Int) := by
  intro f
  induction f with
  | zero => intro lo hi i h; cases h
  | succ f ih =>
    intro lo hi i h
    unfold lookupIdx at h
    by_cases h1 : lo < hi
    · rw [if_pos h1] at h
      by_cases h2 : ((T.getD ((lo + hi) / 2) (0, 0, 0, 0, 0)).1 : Int) ≤ r ∧ r ≤ ((T.getD ((lo + hi) / 2) (0, 0, 0, 0, 0)).2.1 : Int)
      · rw [if_pos h2] at h
        injection h with h
        subst h
        exact ⟨by omega, by omega, h2⟩
      · rw [if_neg h2] at h
        by_cases h3 : r < ((T.getD ((lo + hi) / 2) (0, 0, 0, 0, 0)).1 : Int)
        · rw [if_pos h3] at h
          have := ih _ _ _ h
          exact ⟨by omega, by omega, this.2.2⟩
        · rw [if_neg h3] at h
          have := ih _ _ _ h
          exact ⟨by omega, by omega, this.2.2⟩
    · rw [if_neg h1] at h; cases h
/-- what a row of the table makes of a letter that is not ASCII -/
def rowOk (x : CaseRow) : Bool := decide (x.2.1 < 128) || (if x.delta 1 > 1114111 then decide (128 ≤ x.1) else (decide (x.1 = 304 ∧ x.2.1 = 304) || decide (x.1 = 8490 ∧ x.2.1 = 8490) || decide (128 ≤ (x.1 : Int) + x.delta 1)))
theorem rows_ok : caseT.all rowOk = true := by decide +kernel
theorem row_ok (i : Nat) (hi : i < caseA.size) : rowOk (caseA.getD i (0, 0, 0, 0, 0)) = true := by
  have hm : caseA.getD i (0, 0, 0, 0, 0) ∈ caseT := by
    unfold caseA at hi ⊢
    have hi' : i < caseT.length := by simpa using hi
    have : (caseT.toArray).getD i (0, 0, 0, 0, 0) = caseT[i] := by simp [Array.getD, hi']
    rw [this]
    exact List.getElem_mem hi'
  exact List.all_eq_true.1 rows_ok _ hm
theorem low_ge (r : Int) (h0 : 128 ≤ r) (h1 : r ≠ 304) (h2 : r ≠ 8490) : 128 ≤ toLowerU r := by
  unfold toLowerU
  rw [if_neg (by omega)]
  unfold toR lookupGo
  cases h : lookupIdx caseA r (caseA.size + 1) 0 caseA.size with
  | none => simpa using h0
  | some i =>
    obtain ⟨-, hi, hl, hh⟩ := lookupIdx_in _ _ _ _ _ _ h
    have hok := row_ok i hi
    simp only [Option.map_some]
    generalize caseA.getD i (0, 0, 0, 0, 0) = x at *
    unfold rowOk at hok
    unfold convertR
    simp only [Bool.or_eq_true, decide_eq_true_eq] at hok
    rcases hok with hok | hok
    · omega
    · by_cases hd : x.delta 1 > 1114111
      · rw [if_pos hd] at hok ⊢
        simp only [decide_eq_true_eq] at hok
        omega
      · rw [if_neg hd] at hok ⊢
        simp only [Bool.or_eq_true, decide_eq_true_eq] at hok
        omega
theorem low_304 : toLowerU 304 = 105 := by decide +kernel
theorem low_8490 : toLowerU 8490 = 107 := by decide +kernel
theorem low_ascii (r : Int) (h : r < 128) : toLowerU r = lowb r := by
  unfold toLowerU lowb
  rw [if_pos (by omega)]
theorem u8_of (x : Int) (h0 : 0 ≤ x) (h1 : x < 256) : ((x.toNat.toUInt8).toNat : Int) = x := by
  have : (x.toNat.toUInt8).toNat = x.toNat % 256 := by simp
  omega
theorem enc_high (r : Int) (h : 128 ≤ r) : ∃ b t, encodeRune r = b :: t ∧ 128 ≤ b.toNat := by
  unfold encodeRune encodeRuneZ
  rw [if_neg (by omega)]
  split
  · refine ⟨_, _, rfl, ?_⟩
    have := u8_of (192 + r / 64) (by omega) (by omega)
    show 128 ≤ ((192 + r / 64).toNat.toUInt8).toNat
    omega
  · split
    · refine ⟨_, _, rfl, ?_⟩
      have := u8_of (224 + r / 4096) (by omega) (by omega)
      show 128 ≤ ((224 + r / 4096).toNat.toUInt8).toNat
      omega
    · split
      · refine ⟨_, _, rfl, ?_⟩
        have := u8_of (240 + r / 262144) (by omega) (by omega)
        show 128 ≤ ((240 + r / 262144).toNat.toUInt8).toNat
        omega
      · exact ⟨_, _, rfl, by decide⟩
abbrev nums (l : List UInt8) : List Int := l.map fun b => (b.toNat : Int)
abbrev back (x : List Int) : List UInt8 := x.map fun n => UInt8.ofNat n.toNat
theorem back_nums (l : List UInt8) : back (nums l) = l := by
  induction l with
  | nil => rfl
  | cons c t ih => simp only [back, nums, List.map_cons] at *; rw [ih]; congr 1; simp
/-- the letter at the head, where it is not ASCII -/
theorem head_high (c : UInt8) (t : List UInt8) (h : 128 ≤ c.toNat) : 128 ≤ (decodeL (c :: t)).1 := by
  rcases Nat.lt_or_ge (decodeL (c :: t)).1 128 with q | q
  · have e := encode_decode (c :: t) (by simp) (by omega)
    unfold encodeRune at e
    rw [encodeRuneZ_one (by omega) (by omega)] at e
    have hw := decodeL_width (c :: t)
    obtain ⟨n, hn⟩ : ∃ n, (decodeL (c :: t)).2 = n + 1 := ⟨(decodeL (c :: t)).2 - 1, by omega⟩
    rw [hn, List.take_succ_cons] at e
    have h2 : (((decodeL (c :: t)).1 : Int).toNat.toUInt8) = c := by
      have := congrArg (fun x => x.head?) e
      simpa using this
    have h3 := u8_of ((decodeL (c :: t)).1 : Int) (by omega) (by omega)
    rw [h2] at h3
    omega
  · exact q
theorem head_304 (l : List UInt8) (hne : l ≠ []) (h : (decodeL l).1 = 304) : (decodeL l).2 = 2 ∧ ∃ t, l = 196 :: 176 :: t := by
  have e := encode_decode l hne (by omega)
  rw [h] at e
  have e2 : encodeRune ((304 : Nat) : Int) = [196, 176] := by decide +kernel
  rw [e2] at e
  have hle := decodeL_le l hne
  have hlen := congrArg List.length e
  rw [List.length_take] at hlen
  simp at hlen
  refine ⟨by omega, l.drop 2, ?_⟩
  have h2 : (decodeL l).2 = 2 := by omega
  rw [h2] at e
  have := List.take_append_drop 2 l
  rw [← e] at this
  exact this.symm
theorem head_8490 (l : List UInt8) (hne : l ≠ []) (h : (decodeL l).1 = 8490) : (decodeL l).2 = 3 ∧ ∃ t, l = 226 :: 132 :: 170 :: t := by
  have e := encode_decode l hne (by omega)
  rw [h] at e
  have e2 : encodeRune ((8490 : Nat) : Int) = [226, 132, 170] := by decide +kernel
  rw [e2] at e
  have hle := decodeL_le l hne
  have hlen := congrArg List.length e
  rw [List.length_take] at hlen
  simp at hlen
  refine ⟨by omega, l.drop 3, ?_⟩
  have h2 : (decodeL l).2 = 3 := by omega
  rw [h2] at e
  have := List.take_append_drop 3 l
  rw [← e] at this
  exact this.symm
theorem dec_304 (t : List UInt8) : decodeL (196 :: 176 :: t) = (304, 2) := by
  rw [decodeL_N]
  simp [decodeN]
theorem dec_8490 (t : List UInt8) : decodeL (226 :: 132 :: 170 :: t) = (8490, 3) := by
  rw [decodeL_N]
  simp [decodeN]
theorem enc_one (r : Int) (h0 : 0 ≤ r) (h1 : r < 128) : encodeRune r = [UInt8.ofNat r.toNat] := by
  unfold encodeRune
  rw [encodeRuneZ_one h0 (by omega)]
  rfl
theorem low_step (l : List UInt8) (hne : l ≠ []) : toLowerD l = (if 0 ≤ toLowerU (decodeL l).1 then encodeRune (toLowerU (decodeL l).1) else []) ++ toLowerD (l.drop (decodeL l).2) := mapD_step toLowerU l hne
theorem stepF_cons (c : Int) (r : List Int) : stepF (c :: r) = if c < 128 then some (lowb c, 1) else if c = 196 ∧ r[0]? = some 176 then some (105, 2) else if c = 226 ∧ r[0]? = some 132 ∧ r[1]? = some 170 then some (107, 3) else none := rfl
theorem fold_low : ∀ (n : Nat) (l : List UInt8), l.length = n → (∀ x, foldD (nums l) = some x → toLowerD l = back x) ∧ (foldD (nums l) = none → ∃ b ∈ toLowerD l, 128 ≤ b.toNat) := by
  intro n
  induction n using Nat.strongRecOn with
  | ind n ih =>
    intro l hl
    cases l with
    | nil => exact ⟨(fun x h => by have h : some ([] : List Int) = some x := h; injection h with h; subst h; rfl), (fun h => by have h : some ([] : List Int) = none := h; cases h)⟩
    | cons c t =>
      have hne : c :: t ≠ [] := by simp
      have hst := low_step (c :: t) hne
      have hn1 : t.length + 1 = n := by simpa using hl
      have hfd : foldD (nums (c :: t)) = _ := foldD_step (l := nums (c :: t)) (by simp)
      -- one step that folds
      have go : ∀ (b : Int) (d : Nat), stepF (nums (c :: t)) = some (b, d) → (decodeL (c :: t)).2 = d → 0 ≤ b → b < 128 → toLowerU (decodeL (c :: t)).1 = b →
          (∀ x, foldD (nums (c :: t)) = some x → toLowerD (c :: t) = back x) ∧ (foldD (nums (c :: t)) = none → ∃ b ∈ toLowerD (c :: t), 128 ≤ b.toNat) := by
        intro b d hs hd hb0 hb1 hr
        have hpos := stepF_pos hs
        rw [hs] at hfd
        simp only at hfd
        rw [hr, if_pos hb0, enc_one b hb0 hb1, hd] at hst
        have hdr : (nums (c :: t)).drop d = nums ((c :: t).drop d) := by simp [nums]
        rw [hdr] at hfd
        have hlen : ((c :: t).drop d).length < n := by rw [List.length_drop]; simp; omega
        have IH := ih _ hlen _ rfl
        rw [hfd, hst]
        cases hf : foldD (nums ((c :: t).drop d)) with
        | none =>
          refine ⟨(fun x h => by cases h), fun _ => ?_⟩
          obtain ⟨e, he, h8⟩ := IH.2 hf
          exact ⟨e, by simp [he], h8⟩
        | some y =>
          refine ⟨fun x h => ?_, (fun h => by cases h)⟩
          simp only [Option.map_some, Option.some.injEq] at h
          subst h
          rw [IH.1 y hf]
          rfl
      by_cases h1 : ((c.toNat : Int)) < 128
      · have hdec := decodeL_ascii c t (by omega)
        refine go (lowb c.toNat) 1 ?_ (by rw [hdec]) ?_ ?_ ?_
        · show stepF ((c.toNat : Int) :: nums t) = _
          rw [stepF_cons, if_pos h1]
        · unfold lowb; split <;> omega
        · unfold lowb; split <;> omega
        · rw [hdec]; exact low_ascii _ h1
      · by_cases h2 : (c.toNat : Int) = 196 ∧ (nums t)[0]? = some 176
        · have e1 : c = 196 := by
            have : c.toNat = (196 : UInt8).toNat := by have := h2.1; show c.toNat = 196; omega
            exact UInt8.toNat_inj.1 this
          obtain ⟨d, t', e2, e3⟩ : ∃ d t', t = d :: t' ∧ d = 176 := by
            cases t with
            | nil => simp at h2
            | cons d t' =>
              have := h2.2
              simp at this
              exact ⟨d, t', rfl, UInt8.toNat_inj.1 (by show d.toNat = 176; omega)⟩
          subst e1 e2 e3
          refine go 105 2 (by rw [show nums (196 :: 176 :: t') = 196 :: 176 :: nums t' by simp [nums], stepF_cons, if_neg (by decide), if_pos ⟨rfl, rfl⟩]) (by rw [dec_304]) (by omega) (by omega) (by rw [dec_304]; exact low_304)
        · by_cases h3 : (c.toNat : Int) = 226 ∧ (nums t)[0]? = some 132 ∧ (nums t)[1]? = some 170
          · have e1 : c = 226 := UInt8.toNat_inj.1 (by have := h3.1; show c.toNat = 226; omega)
            obtain ⟨d, d2, t', e2, e3, e4⟩ : ∃ d d2 t', t = d :: d2 :: t' ∧ d = 132 ∧ d2 = 170 := by
              cases t with
              | nil => simp at h3
              | cons d t' =>
                cases t' with
                | nil => simp at h3
                | cons d2 t'' =>
                  have q1 := h3.2.1
                  have q2 := h3.2.2
                  simp at q1 q2
                  exact ⟨d, d2, t'', rfl, UInt8.toNat_inj.1 (by show d.toNat = 132; omega), UInt8.toNat_inj.1 (by show d2.toNat = 170; omega)⟩
            subst e1 e2 e3 e4
            refine go 107 3 (by rw [show nums (226 :: 132 :: 170 :: t') = 226 :: 132 :: 170 :: nums t' by simp [nums], stepF_cons, if_neg (by decide), if_neg (by simp), if_pos ⟨rfl, rfl, rfl⟩]) (by rw [dec_8490]) (by omega) (by omega) (by rw [dec_8490]; exact low_8490)
          · have hs : stepF (nums (c :: t)) = none := by
              show stepF ((c.toNat : Int) :: nums t) = _
              rw [stepF_cons, if_neg h1, if_neg h2, if_neg h3]
            rw [hs] at hfd
            have hh := head_high c t (by omega)
            have hge : 128 ≤ toLowerU (decodeL (c :: t)).1 := by
              refine low_ge _ (by omega) (fun e => ?_) (fun e => ?_)
              · obtain ⟨-, t', ht⟩ := head_304 (c :: t) hne (by omega)
                injection ht with q1 q2
                exact h2 ⟨by rw [q1]; rfl, by rw [q2]; rfl⟩
              · obtain ⟨-, t', ht⟩ := head_8490 (c :: t) hne (by omega)
                injection ht with q1 q2
                exact h3 ⟨by rw [q1]; rfl, by rw [q2]; rfl, by rw [q2]; rfl⟩
            rw [if_pos (by omega)] at hst
            obtain ⟨b, t', e, h8⟩ := enc_high _ hge
            rw [e] at hst
            exact ⟨(fun x h => by rw [hfd] at h; cases h), fun _ => ⟨b, (by rw [hst]; simp), h8⟩⟩
theorem step_rel (c : Int) (t : List Int) : (∀ b d, stepF (c :: t) = some (b, d) → stepZ (c :: t) = (b, d)) ∧ (stepF (c :: t) = none → 128 ≤ c ∧ stepZ (c :: t) = (c, 1)) := by
  have e : stepZ (c :: t) = if 65 ≤ c ∧ c ≤ 90 then (c + 32, 1) else if c = 196 ∧ t[0]? = some 176 then (105, 2) else if c = 226 ∧ t[0]? = some 132 ∧ t[1]? = some 170 then (107, 3) else (c, 1) := rfl
  rw [stepF_cons, e]
  by_cases h1 : c < 128
  · rw [if_pos h1]
    refine ⟨fun b d h => ?_, (fun h => by cases h)⟩
    injection h with h
    rw [← h]
    unfold lowb
    by_cases h2 : 65 ≤ c ∧ c ≤ 90
    · rw [if_pos h2, if_pos h2]
    · rw [if_neg h2, if_neg h2, if_neg (fun q => by omega), if_neg (fun q => by omega)]
  · rw [if_neg h1, if_neg (fun q : 65 ≤ c ∧ c ≤ 90 => by omega)]
    by_cases h3 : c = 196 ∧ t[0]? = some 176
    · rw [if_pos h3, if_pos h3]
      exact ⟨fun b d h => by injection h, (fun h => by cases h)⟩
    · rw [if_neg h3, if_neg h3]
      by_cases h4 : c = 226 ∧ t[0]? = some 132 ∧ t[1]? = some 170
      · rw [if_pos h4, if_pos h4]
        exact ⟨fun b d h => by injection h, (fun h => by cases h)⟩
      · rw [if_neg h4, if_neg h4]
        exact ⟨(fun b d h => by cases h), fun _ => ⟨by omega, rfl⟩⟩
theorem foldZ_D : ∀ (n : Nat) (l : List Int), l.length = n → (∀ c ∈ l, 0 ≤ c ∧ c < 256) → (∀ x, foldD l = some x → foldZ l = x) ∧ (foldD l = none → ∃ b ∈ foldZ l, 128 ≤ b ∧ b < 256) := by
  intro n
  induction n using Nat.strongRecOn with
  | ind n ih =>
    intro l hl hr
    cases l with
    | nil => exact ⟨(fun x h => by have h : some ([] : List Int) = some x := h; injection h), (fun h => by have h : some ([] : List Int) = none := h; cases h)⟩
    | cons c t =>
      have hz := foldZ_step (l := c :: t) (by simp)
      have hd := foldD_step (l := c :: t) (by simp)
      have hs := step_rel c t
      cases h : stepF (c :: t) with
      | none =>
        rw [h] at hd
        obtain ⟨h1, h2⟩ := hs.2 h
        refine ⟨(fun x q => by rw [hd] at q; cases q), fun _ => ⟨c, ?_, h1, (hr c (by simp)).2⟩⟩
        rw [hz, h2]; simp
      | some y =>
        obtain ⟨b, d⟩ := y
        have hp := stepF_pos h
        rw [h] at hd
        simp only at hd
        rw [hs.1 b d h] at hz
        simp only at hz
        have hlen : ((c :: t).drop d).length < n := by rw [List.length_drop]; omega
        have IH := ih _ hlen _ rfl (fun e he => hr e (List.mem_of_mem_drop he))
        rw [hz, hd]
        cases hf : foldD ((c :: t).drop d) with
        | none =>
          refine ⟨(fun x q => by cases q), fun _ => ?_⟩
          obtain ⟨e, he, h8⟩ := IH.2 hf
          exact ⟨e, by simp [he], h8⟩
        | some z =>
          refine ⟨fun x q => ?_, (fun q => by cases q)⟩
          simp only [Option.map_some, Option.some.injEq] at q
          rw [← q, IH.1 z hf]
/-- what strings.ToLower answers -/
def lowS (s : ByteArray) : ByteArray := ⟨(toLowerD s.data.toList).toArray⟩
theorem lowS_list (s : ByteArray) : (lowS s).toList = toLowerD s.data.toList := by rw [ByteArray.toList_eq]; rfl
theorem fS_list (s : ByteArray) : (fS s).toList = back (foldZ (bl s)) := by rw [ByteArray.toList_eq]; rfl
theorem ne_high (l w : List UInt8) (h : ∃ b ∈ l, 128 ≤ b.toNat) (hw : ∀ b ∈ w, b.toNat < 128) : (l == w) = false := by
  rw [beq_eq_false_iff_ne]
  rintro rfl
  obtain ⟨b, hb, h8⟩ := h
  have := hw b hb
  omega
theorem agrS : Agr lowS := fun s w hw => by
  rw [lowS_list, fS_list]
  have h := fold_low _ s.data.toList rfl
  have e : nums s.data.toList = bl s := rfl
  rw [e] at h
  have hz := foldZ_D _ (bl s) rfl (fun c hc => by
    unfold bl at hc
    rw [List.mem_map] at hc
    obtain ⟨b, -, rfl⟩ := hc
    have := b.toNat_lt
    omega)
  cases hf : foldD (bl s) with
  | some x => rw [h.1 x hf, hz.1 x hf]
  | none =>
    rw [ne_high _ _ (h.2 hf) hw, ne_high _ _ ?_ hw]
    obtain ⟨b, hb, h1, h2⟩ := hz.2 hf
    exact ⟨UInt8.ofNat b.toNat, List.mem_map.2 ⟨b, hb, rfl⟩, by simp; omega⟩
theorem enc_len (r : Int) : (encodeRune r).length ≤ 4 := by
  unfold encodeRune encodeRuneZ
  repeat (first | split | simp)
theorem low_len : ∀ (n : Nat) (l : List UInt8), l.length = n → (toLowerD l).length ≤ 4 * n := by
  intro n
  induction n using Nat.strongRecOn with
  | ind n ih =>
    intro l hl
    by_cases hne : l = []
    · subst hne; simp [toLowerD, mapD, mapGoD]
    · have hw := decodeL_width l
      have hle := decodeL_le l hne
      rw [low_step l hne, List.length_append]
      have h1 : (if 0 ≤ toLowerU (decodeL l).1 then encodeRune (toLowerU (decodeL l).1) else []).length ≤ 4 := by
        split
        · exact enc_len _
        · simp
      have h2 := ih (l.drop (decodeL l).2).length (by rw [List.length_drop]; omega) _ rfl
      rw [List.length_drop] at h2
      omega
theorem lowS_size (s : ByteArray) (h : s.size ≤ 1048576) : (lowS s).size ≤ maxLen := by
  have := low_len _ s.data.toList rfl
  have e : (lowS s).size = (toLowerD s.data.toList).length := by simp [lowS, ByteArray.size]
  have e2 : s.data.toList.length = s.size := by rw [Array.length_toList]; rfl
  rw [e]; unfold maxLen; omega
end Go.Proofs.YtpjbhbbhkhfiaaaDoor
