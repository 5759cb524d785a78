/- The law's own folding of a text, walked, and against strings.ToLower's. -/
import Derived.Test.YtpjbhbbhkhfiaaaDoorLs1
import Derived.Test.YtpjbhbbhkhfiaaaDoorAn
import Derived.Test.YtpjbhbbhkhfiaaaDoorMk
import Derived.Laws.BytesArg
import Derived.Lib.MapLaws
import Derived.Lib.TrimAscii
import Derived.OwnWalk
set_option linter.unusedVariables false
set_option linter.unusedSimpArgs false
namespace Go.Proofs.YtpjbhbbhkhfiaaaDoor
open Go.RowKit
/-- the bytes of a text as numbers -/
def bl (s : ByteArray) : List Int := s.data.toList.map fun b => (b.toNat : Int)
theorem bl_len (s : ByteArray) : (bl s).length = s.size := by unfold bl; rw [List.length_map]; exact Array.length_toList
theorem bl_at (s : ByteArray) (k : Nat) (h : k < s.size) : (bl s)[k]? = some ((s[k]'h).toNat : Int) := by
  have h' : k < s.data.size := h
  unfold bl
  rw [List.getElem?_map, Array.getElem?_toList, Array.getElem?_eq_getElem h']
  rfl
def lowb (c : Int) : Int := if 65 ≤ c ∧ c ≤ 90 then c + 32 else c
/-- the first letter of a text folded, and how many bytes it takes -/
def stepF : List Int → Option (Int × Nat)
  | [] => none
  | c :: r => if c < 128 then some (lowb c, 1) else if c = 196 ∧ r[0]? = some 176 then some (105, 2) else if c = 226 ∧ r[0]? = some 132 ∧ r[1]? = some 170 then some (107, 3) else none
theorem stepF_pos {l : List Int} {b : Int} {d : Nat} (h : stepF l = some (b, d)) : 1 ≤ d ∧ d ≤ l.length := by
  cases l with
  | nil => cases h
  | cons c r =>
    have e : (c :: r).length = r.length + 1 := rfl
    simp only [stepF] at h
    by_cases h1 : c < 128
    · rw [if_pos h1] at h; cases h; omega
    · rw [if_neg (show ¬ (c : Int) < 128 by omega)] at h
      by_cases h2 : c = 196 ∧ r[0]? = some 176
      · rw [if_pos h2] at h; cases h
        have := (List.getElem?_eq_some_iff.1 h2.2).1
        omega
      · rw [if_neg h2] at h
        by_cases h3 : c = 226 ∧ r[0]? = some 132 ∧ r[1]? = some 170
        · rw [if_pos h3] at h; cases h
          have := (List.getElem?_eq_some_iff.1 h3.2.2).1
          omega
        · rw [if_neg h3] at h; cases h
def foldGo : Nat → List Int → Option (List Int)
  | 0, _ => some []
  | n + 1, l => if l = [] then some [] else match stepF l with
    | some (b, d) => (foldGo n (l.drop d)).map (fun x => b :: x)
    | none => none
theorem foldGo_succ (n : Nat) (l : List Int) : foldGo (n + 1) l = if l = [] then some [] else match stepF l with
    | some (b, d) => (foldGo n (l.drop d)).map (fun x => b :: x)
    | none => none := rfl
theorem foldGo_enough : ∀ (n : Nat) (l : List Int), l.length ≤ n → foldGo n l = foldGo l.length l := by
  intro n
  induction n using Nat.strongRecOn with
  | ind n ih =>
    intro l hl
    cases n with
    | zero =>
      have : l = [] := List.eq_nil_of_length_eq_zero (by omega)
      subst this; rfl
    | succ n =>
      by_cases hl0 : l = []
      · subst hl0; simp [foldGo]
      · obtain ⟨c, r, rfl⟩ : ∃ c r, l = c :: r := by cases l with | nil => exact absurd rfl hl0 | cons c r => exact ⟨c, r, rfl⟩
        have e : (c :: r).length = r.length + 1 := rfl
        rw [e]
        rw [foldGo_succ, foldGo_succ, if_neg hl0, if_neg hl0]
        cases hs : stepF (c :: r) with
        | none => rfl
        | some x =>
          obtain ⟨b, d⟩ := x
          have := stepF_pos hs
          simp only
          have hd : ((c :: r).drop d).length ≤ r.length := by rw [List.length_drop]; simp; omega
          simp at hl
          rw [ih n (by omega) _ (by omega)]
          by_cases hn : r.length < n + 1
          · rw [ih r.length (by omega) _ hd]
          · omega
def foldD (l : List Int) : Option (List Int) := foldGo l.length l
theorem foldD_nil : foldD [] = some [] := rfl
theorem foldD_step {l : List Int} (hl : l ≠ []) : foldD l = match stepF l with
    | some (b, d) => (foldD (l.drop d)).map (fun x => b :: x)
    | none => none := by
  obtain ⟨c, r, rfl⟩ : ∃ c r, l = c :: r := by cases l with | nil => exact absurd rfl hl | cons c r => exact ⟨c, r, rfl⟩
  unfold foldD
  rw [show (c :: r).length = r.length + 1 from rfl, foldGo_succ, if_neg hl]
  cases hs : stepF (c :: r) with
  | none => rfl
  | some x =>
    obtain ⟨b, d⟩ := x
    have := stepF_pos hs
    simp only
    rw [foldGo_enough r.length _ (by rw [List.length_drop]; simp; omega)]
/-- where the loop stands -/
def At (L : List Int) (k : Nat) (acc : List Int) : Prop := foldD L = (foldD (L.drop k)).map (fun x => acc ++ x)
theorem At.start (L : List Int) : At L 0 [] := by unfold At; simp only [List.drop_zero, List.nil_append]; cases foldD L <;> rfl
theorem At.step {L : List Int} {k : Nat} {acc : List Int} (h : At L k acc) (hk : k < L.length) {b : Int} {d : Nat} (hs : stepF (L.drop k) = some (b, d)) : At L (k + d) (acc ++ [b]) := by
  unfold At at *
  rw [h, foldD_step (by intro e; have := congrArg List.length e; simp at this; omega), hs]
  simp only [List.drop_drop]
  cases foldD (L.drop (k + d)) <;> simp
theorem At.stop {L : List Int} {k : Nat} {acc : List Int} (h : At L k acc) (hk : k < L.length) (hs : stepF (L.drop k) = none) : foldD L = none := by
  unfold At at h
  rw [h, foldD_step (by intro e; have := congrArg List.length e; simp at this; omega), hs]
  rfl
theorem At.full {L : List Int} {acc : List Int} (h : At L L.length acc) : foldD L = some acc := by
  unfold At at h
  rw [h]; simp [foldD_nil]
theorem drop_step (L : List Int) (k : Nat) (c : Int) (h : L[k]? = some c) : stepF (L.drop k) = if c < 128 then some (lowb c, 1) else if c = 196 ∧ L[k + 1]? = some 176 then some (105, 2) else if c = 226 ∧ L[k + 1]? = some 132 ∧ L[k + 2]? = some 170 then some (107, 3) else none := by
  have hk := (List.getElem?_eq_some_iff.1 h)
  obtain ⟨hk, e⟩ := hk
  rw [List.drop_eq_getElem_cons hk, e]
  unfold stepF
  simp only [List.getElem?_drop, Nat.add_zero]
abbrev byteVs (xs : List Int) : List Value := xs.map (Value.int .u8)
theorem info5 : (Tryd.prog.info? 5).map (fun i => (i.zero.map (·.cells), i.size, i.bytes)) = some (some #[.int .u8 0], 1, 1) := by kernel_rfl
theorem one5 (x : Int) : (#[Value.int .u8 x] : Array Value).all (·.oneCell') = true := by rw [Array.all_eq_true']; intro u hu; simp at hu; subst hu; rfl
/-- the law's folding: it keeps what it does not know -/
def stepZ : List Int → Int × Nat
  | [] => (0, 1)
  | c :: r => if 65 ≤ c ∧ c ≤ 90 then (c + 32, 1) else if c = 196 ∧ r[0]? = some 176 then (105, 2) else if c = 226 ∧ r[0]? = some 132 ∧ r[1]? = some 170 then (107, 3) else (c, 1)
def foldZgo : Nat → List Int → List Int
  | 0, _ => []
  | n + 1, l => if l = [] then [] else (stepZ l).1 :: foldZgo n (l.drop (stepZ l).2)
theorem stepZ_pos (l : List Int) : 1 ≤ (stepZ l).2 := by
  cases l with
  | nil => exact Nat.le_refl _
  | cons c r => unfold stepZ; repeat' split
                all_goals simp
theorem foldZgo_enough : ∀ (n : Nat) (l : List Int), l.length ≤ n → foldZgo n l = foldZgo l.length l := by
  intro n
  induction n using Nat.strongRecOn with
  | ind n ih =>
    intro l hl
    cases n with
    | zero =>
      have : l = [] := List.eq_nil_of_length_eq_zero (by omega)
      subst this; rfl
    | succ n =>
      by_cases hl0 : l = []
      · subst hl0; simp [foldZgo]
      · obtain ⟨c, r, rfl⟩ : ∃ c r, l = c :: r := by cases l with | nil => exact absurd rfl hl0 | cons c r => exact ⟨c, r, rfl⟩
        have e : (c :: r).length = r.length + 1 := rfl
        rw [e]
        have u : ∀ m (l : List Int), foldZgo (m + 1) l = if l = [] then [] else (stepZ l).1 :: foldZgo m (l.drop (stepZ l).2) := fun _ _ => rfl
        rw [u, u, if_neg hl0, if_neg hl0]
        have := stepZ_pos (c :: r)
        have hd : ((c :: r).drop (stepZ (c :: r)).2).length ≤ r.length := by rw [List.length_drop]; simp; omega
        simp at hl
        rw [ih n (by omega) _ (by omega)]
        by_cases hn : r.length < n + 1
        · rw [ih r.length (by omega) _ hd]
        · omega
def foldZ (l : List Int) : List Int := foldZgo l.length l
theorem foldZ_step {l : List Int} (hl : l ≠ []) : foldZ l = (stepZ l).1 :: foldZ (l.drop (stepZ l).2) := by
  obtain ⟨c, r, rfl⟩ : ∃ c r, l = c :: r := by cases l with | nil => exact absurd rfl hl | cons c r => exact ⟨c, r, rfl⟩
  unfold foldZ
  have u : ∀ m (l : List Int), foldZgo (m + 1) l = if l = [] then [] else (stepZ l).1 :: foldZgo m (l.drop (stepZ l).2) := fun _ _ => rfl
  rw [show (c :: r).length = r.length + 1 from rfl, u, if_neg hl]
  have := stepZ_pos (c :: r)
  rw [foldZgo_enough r.length _ (by rw [List.length_drop]; simp; omega)]
/-- how far the folding has come -/
def AtZ (L : List Int) (k : Nat) (acc : List Int) : Prop := foldZ L = acc ++ foldZ (L.drop k)
theorem AtZ.start (L : List Int) : AtZ L 0 [] := by unfold AtZ; rfl
theorem AtZ.step {L : List Int} {k : Nat} {acc : List Int} (h : AtZ L k acc) (hk : k < L.length) {b : Int} {d : Nat} (hs : stepZ (L.drop k) = (b, d)) : AtZ L (k + d) (acc ++ [b]) := by
  unfold AtZ at *
  rw [h, foldZ_step (by intro e; have := congrArg List.length e; simp at this; omega), hs, List.drop_drop]
  simp
theorem AtZ.full {L : List Int} {acc : List Int} (h : AtZ L L.length acc) : foldZ L = acc := by
  unfold AtZ at h
  rw [h]; simp [foldZ, foldZgo]
theorem dropZ_step (L : List Int) (k : Nat) (c : Int) (h : L[k]? = some c) : stepZ (L.drop k) = if 65 ≤ c ∧ c ≤ 90 then (c + 32, 1) else if c = 196 ∧ L[k + 1]? = some 176 then (105, 2) else if c = 226 ∧ L[k + 1]? = some 132 ∧ L[k + 2]? = some 170 then (107, 3) else (c, 1) := by
  obtain ⟨hk, e⟩ := List.getElem?_eq_some_iff.1 h
  rw [List.drop_eq_getElem_cons hk, e]
  unfold stepZ
  simp only [List.getElem?_drop, Nat.add_zero]
structure FzIt (s : ByteArray) (w wr : World) (k : Nat) (v : Value) (acc : List Int) : Prop where
  le : k ≤ s.size
  len : acc.length ≤ k
  own : wr.ownsRow w.heap.size 5 1 v acc.length (byteVs acc)
  bel : Below w.heap.size w wr
  at_ : AtZ (bl s) k acc
set_option maxRecDepth 100000 in
set_option maxHeartbeats 2000000 in
theorem fold19_c (s : ByteArray) (w : World) (hs : s.size ≤ 1048576) : Calls Tryd.prog 19 #[.string s] w (fun e w' => e = .returned (.string (strOfNums (foldZ (bl s)))) ∧ Below w.heap.size w w') := by
  have hmk := make0_z (P := Tryd.prog) #[.int .u8 0] Tryd.underlying22 info5 s.size hs (by omega) w
  go_enter Tryd.func19, Tryd.ntmps19
  go_upto_region 2 with fail
  refine wp_gen (fun W hW => ?_)
  have H0 : Hid (FzIt s w W 0 (.slice (some ⟨w.heap.size, 0, none⟩) 0 s.size) []) := Lib.hid ⟨by omega, by simp, by rw [hW]; exact World.ownsRow_made w _ s.size (Nat.le_refl _) (by unfold maxLen; omega) (by simp [size_madeCells]), by rw [hW]; exact ba _ _, AtZ.start _⟩
  clear hW hmk
  go_wp2
  go_loopw [3, 4] (fun u i wr => ∃ (k : Nat) (v : Value) (acc : List Int), u = v ∧ i = .int .i64 k ∧ FzIt s w wr k v acc) (fun _ i _ => s.size - (intOf i).toNat)
  case atStart => exact ⟨0, _, [], rfl, rfl, H0.out⟩
  case round =>
    clear H0
    obtain ⟨k, v, acc, rfl, rfl, HI⟩ := hrel
    obtain ⟨a, cc, e, -, -⟩ := own_shape HI.own
    subst e
    replace HI := Lib.hid HI
    have l1 := HI.out.le
    have l2 := HI.out.len
    by_cases hk : k < s.size
    · have hb := bl_at s k hk
      obtain ⟨c, hc⟩ : ∃ c : Nat, c = (s[k]'hk).toNat := ⟨_, rfl⟩
      have hc255 : c ≤ 255 := by rw [hc]; exact Nat.le_of_lt_succ (UInt8.toNat_lt _)
      rw [← hc] at hb
      replace hb := Lib.hid hb
      have hc' : (s[k]'hk).toNat = c := hc.symm
      clear hc
      go_upto_region 5 with fail
      clear hc'
      by_cases g0 : (65 : Int) ≤ c ∧ (c : Int) ≤ 90
      · obtain ⟨g2, g3⟩ := g0
        have w1 : (c : Int) + 32 ≤ 255 := by omega
        go_wp2_with (at_builtin; refine app1n (w := wr) (.tmp 22) (.tmp 25) 22 5 w.heap.size 1 1 #[.int .u8 0] #[.int .u8 ((c : Int) + 32)] (.slice a acc.length cc) acc.length _ rfl rfl rfl rfl rfl Tryd.underlying22 info5 rfl (by omega) HI.out.own rfl (one5 _) (by omega) (by omega) HI.out.bel.size ?_; intro v2 w2 h2 hkp hnw; replace h2 := Lib.hid h2; replace hkp := Lib.hid hkp; clear hnw)
        go_roundw
        case rel => exact ⟨k + 1, v2, acc ++ [(c : Int) + 32], rfl, by go_num, ⟨by omega, by simp; omega, by simpa using h2.out, HI.out.bel.trans (hkp.out.below HI.out.bel.size (fun b e => (HI.out.own.lt b e).1)), HI.out.at_.step (by rw [bl_len]; exact hk) (by rw [dropZ_step _ _ _ hb.out]; rw [if_pos ⟨g2, g3⟩])⟩⟩
        case measure => simp [intOf]; omega
      · have H2 := Lib.hid g0
        have n1 : (c : Int) < 65 ∨ 90 < (c : Int) := by omega
        clear g0
        by_cases h4 : (c : Int) = 196
        · have n2 : ((c : Int) == 226) = false := by rw [h4]; rfl
          have h65 : (90 : Int) < c := by omega
          clear n1
          by_cases h5 : k + 1 < s.size
          · have hb1 := bl_at s (k + 1) h5
            obtain ⟨d, hd⟩ : ∃ d : Nat, d = (s[k + 1]'h5).toNat := ⟨_, rfl⟩
            rw [← hd] at hb1
            have hd' : (s[k + 1]'h5).toNat = d := hd.symm
            have hd255 : d ≤ 255 := by rw [hd]; exact Nat.le_of_lt_succ (UInt8.toNat_lt _)
            clear hd
            replace hb1 := Lib.hid hb1
            by_cases h6 : (d : Int) = 176
            · go_wp2_with (at_builtin; refine app1n (w := wr) (.tmp 45) (.tmp 46) 22 5 w.heap.size 1 1 #[.int .u8 0] #[.int .u8 (105)] (.slice a acc.length cc) acc.length _ rfl rfl rfl rfl rfl Tryd.underlying22 info5 rfl (by omega) HI.out.own rfl (one5 _) (by omega) (by omega) HI.out.bel.size ?_; intro v2 w2 h2 hkp hnw; replace h2 := Lib.hid h2; replace hkp := Lib.hid hkp; clear hnw)
              go_roundw
              case rel => exact ⟨k + 2, v2, acc ++ [105], rfl, by go_num, ⟨by omega, by simp; omega, by simpa using h2.out, HI.out.bel.trans (hkp.out.below HI.out.bel.size (fun b e => (HI.out.own.lt b e).1)), HI.out.at_.step (by rw [bl_len]; exact hk) (by rw [dropZ_step _ _ _ hb.out]; rw [if_neg H2.out, if_pos ⟨h4, by rw [hb1.out, h6]⟩])⟩⟩
              case measure => simp [intOf]; omega
            · have n3 : ((d : Int) == 176) = false := by simpa using h6
              have H6 := Lib.hid h6
              clear h6
              go_wp2_with (at_builtin; refine app1n (w := wr) (.tmp 78) (.tmp 80) 22 5 w.heap.size 1 1 #[.int .u8 0] #[.int .u8 (196)] (.slice a acc.length cc) acc.length _ rfl rfl rfl rfl rfl Tryd.underlying22 info5 rfl (by omega) HI.out.own rfl (one5 _) (by omega) (by omega) HI.out.bel.size ?_; intro v2 w2 h2 hkp hnw; replace h2 := Lib.hid h2; replace hkp := Lib.hid hkp; clear hnw)
              go_roundw
              case rel => exact ⟨k + 1, v2, acc ++ [196], rfl, by go_num, ⟨by omega, by simp; omega, by simpa using h2.out, HI.out.bel.trans (hkp.out.below HI.out.bel.size (fun b e => (HI.out.own.lt b e).1)), HI.out.at_.step (by rw [bl_len]; exact hk) (by rw [dropZ_step _ _ _ hb.out]; rw [if_neg H2.out, if_neg (fun q => H6.out (by have := q.2; rw [hb1.out] at this; exact Option.some.inj this)), if_neg (fun q => by omega)]; rw [h4])⟩⟩
              case measure => simp [intOf]; omega
          · go_wp2_with (at_builtin; refine app1n (w := wr) (.tmp 78) (.tmp 80) 22 5 w.heap.size 1 1 #[.int .u8 0] #[.int .u8 (196)] (.slice a acc.length cc) acc.length _ rfl rfl rfl rfl rfl Tryd.underlying22 info5 rfl (by omega) HI.out.own rfl (one5 _) (by omega) (by omega) HI.out.bel.size ?_; intro v2 w2 h2 hkp hnw; replace h2 := Lib.hid h2; replace hkp := Lib.hid hkp; clear hnw)
            go_roundw
            case rel => exact ⟨k + 1, v2, acc ++ [196], rfl, by go_num, ⟨by omega, by simp; omega, by simpa using h2.out, HI.out.bel.trans (hkp.out.below HI.out.bel.size (fun b e => (HI.out.own.lt b e).1)), HI.out.at_.step (by rw [bl_len]; exact hk) (by rw [dropZ_step _ _ _ hb.out]; rw [if_neg H2.out, if_neg (fun q => by have := (List.getElem?_eq_some_iff.1 q.2).1; rw [bl_len] at this; omega), if_neg (fun q => by omega)]; rw [h4])⟩⟩
            case measure => simp [intOf]; omega
        · have n0 : ((c : Int) == 196) = false := by simpa using h4
          have H4 := Lib.hid h4
          clear h4
          by_cases h7 : (c : Int) = 226
          · have h65 : (90 : Int) < c := by omega
            clear n1
            by_cases h8 : k + 2 < s.size
            · have h5 : k + 1 < s.size := by omega
              have hb1 := bl_at s (k + 1) h5
              obtain ⟨d, hd⟩ : ∃ d : Nat, d = (s[k + 1]'h5).toNat := ⟨_, rfl⟩
              rw [← hd] at hb1
              have hd' : (s[k + 1]'h5).toNat = d := hd.symm
              have hd255 : d ≤ 255 := by rw [hd]; exact Nat.le_of_lt_succ (UInt8.toNat_lt _)
              clear hd
              replace hb1 := Lib.hid hb1
              have hb2 := bl_at s (k + 2) h8
              obtain ⟨d2, hd2⟩ : ∃ d : Nat, d = (s[k + 2]'h8).toNat := ⟨_, rfl⟩
              rw [← hd2] at hb2
              have hd2' : (s[k + 2]'h8).toNat = d2 := hd2.symm
              have hd2255 : d2 ≤ 255 := by rw [hd2]; exact Nat.le_of_lt_succ (UInt8.toNat_lt _)
              clear hd2
              replace hb2 := Lib.hid hb2
              by_cases h9 : (d : Int) = 132
              · by_cases h10 : (d2 : Int) = 170
                · go_wp2_with (at_builtin; refine app1n (w := wr) (.tmp 73) (.tmp 74) 22 5 w.heap.size 1 1 #[.int .u8 0] #[.int .u8 (107)] (.slice a acc.length cc) acc.length _ rfl rfl rfl rfl rfl Tryd.underlying22 info5 rfl (by omega) HI.out.own rfl (one5 _) (by omega) (by omega) HI.out.bel.size ?_; intro v2 w2 h2 hkp hnw; replace h2 := Lib.hid h2; replace hkp := Lib.hid hkp; clear hnw)
                  go_roundw
                  case rel => exact ⟨k + 3, v2, acc ++ [107], rfl, by go_num, ⟨by omega, by simp; omega, by simpa using h2.out, HI.out.bel.trans (hkp.out.below HI.out.bel.size (fun b e => (HI.out.own.lt b e).1)), HI.out.at_.step (by rw [bl_len]; exact hk) (by rw [dropZ_step _ _ _ hb.out]; rw [if_neg H2.out, if_neg (fun q => H4.out q.1), if_pos ⟨h7, by rw [hb1.out, h9], by rw [hb2.out, h10]⟩])⟩⟩
                  case measure => simp [intOf]; omega
                · have n3 : ((d2 : Int) == 170) = false := by simpa using h10
                  have H6 := Lib.hid h10
                  clear h10
                  go_wp2_with (at_builtin; refine app1n (w := wr) (.tmp 78) (.tmp 80) 22 5 w.heap.size 1 1 #[.int .u8 0] #[.int .u8 (226)] (.slice a acc.length cc) acc.length _ rfl rfl rfl rfl rfl Tryd.underlying22 info5 rfl (by omega) HI.out.own rfl (one5 _) (by omega) (by omega) HI.out.bel.size ?_; intro v2 w2 h2 hkp hnw; replace h2 := Lib.hid h2; replace hkp := Lib.hid hkp; clear hnw)
                  go_roundw
                  case rel => exact ⟨k + 1, v2, acc ++ [226], rfl, by go_num, ⟨by omega, by simp; omega, by simpa using h2.out, HI.out.bel.trans (hkp.out.below HI.out.bel.size (fun b e => (HI.out.own.lt b e).1)), HI.out.at_.step (by rw [bl_len]; exact hk) (by rw [dropZ_step _ _ _ hb.out]; rw [if_neg H2.out, if_neg (fun q => H4.out q.1), if_neg (fun q => H6.out (by have := q.2.2; rw [hb2.out] at this; exact Option.some.inj this))]; rw [h7])⟩⟩
                  case measure => simp [intOf]; omega
              · have n3 : ((d : Int) == 132) = false := by simpa using h9
                have H6 := Lib.hid h9
                clear h9
                go_wp2_with (at_builtin; refine app1n (w := wr) (.tmp 78) (.tmp 80) 22 5 w.heap.size 1 1 #[.int .u8 0] #[.int .u8 (226)] (.slice a acc.length cc) acc.length _ rfl rfl rfl rfl rfl Tryd.underlying22 info5 rfl (by omega) HI.out.own rfl (one5 _) (by omega) (by omega) HI.out.bel.size ?_; intro v2 w2 h2 hkp hnw; replace h2 := Lib.hid h2; replace hkp := Lib.hid hkp; clear hnw)
                go_roundw
                case rel => exact ⟨k + 1, v2, acc ++ [226], rfl, by go_num, ⟨by omega, by simp; omega, by simpa using h2.out, HI.out.bel.trans (hkp.out.below HI.out.bel.size (fun b e => (HI.out.own.lt b e).1)), HI.out.at_.step (by rw [bl_len]; exact hk) (by rw [dropZ_step _ _ _ hb.out]; rw [if_neg H2.out, if_neg (fun q => H4.out q.1), if_neg (fun q => H6.out (by have := q.2.1; rw [hb1.out] at this; exact Option.some.inj this))]; rw [h7])⟩⟩
                case measure => simp [intOf]; omega
            · go_wp2_with (at_builtin; refine app1n (w := wr) (.tmp 78) (.tmp 80) 22 5 w.heap.size 1 1 #[.int .u8 0] #[.int .u8 (226)] (.slice a acc.length cc) acc.length _ rfl rfl rfl rfl rfl Tryd.underlying22 info5 rfl (by omega) HI.out.own rfl (one5 _) (by omega) (by omega) HI.out.bel.size ?_; intro v2 w2 h2 hkp hnw; replace h2 := Lib.hid h2; replace hkp := Lib.hid hkp; clear hnw)
              go_roundw
              case rel => exact ⟨k + 1, v2, acc ++ [226], rfl, by go_num, ⟨by omega, by simp; omega, by simpa using h2.out, HI.out.bel.trans (hkp.out.below HI.out.bel.size (fun b e => (HI.out.own.lt b e).1)), HI.out.at_.step (by rw [bl_len]; exact hk) (by rw [dropZ_step _ _ _ hb.out]; rw [if_neg H2.out, if_neg (fun q => H4.out q.1), if_neg (fun q => by have := (List.getElem?_eq_some_iff.1 q.2.2).1; rw [bl_len] at this; omega)]; rw [h7])⟩⟩
              case measure => simp [intOf]; omega
          · have n2 : ((c : Int) == 226) = false := by simpa using h7
            have H7 := Lib.hid h7
            clear h7
            rcases n1 with n1 | n1
            · go_wp2_with (at_builtin; refine app1n (w := wr) (.tmp 78) (.tmp 80) 22 5 w.heap.size 1 1 #[.int .u8 0] #[.int .u8 ((c : Int))] (.slice a acc.length cc) acc.length _ rfl rfl rfl rfl rfl Tryd.underlying22 info5 rfl (by omega) HI.out.own rfl (one5 _) (by omega) (by omega) HI.out.bel.size ?_; intro v2 w2 h2 hkp hnw; replace h2 := Lib.hid h2; replace hkp := Lib.hid hkp; clear hnw)
              go_roundw
              case rel => exact ⟨k + 1, v2, acc ++ [(c : Int)], rfl, by go_num, ⟨by omega, by simp; omega, by simpa using h2.out, HI.out.bel.trans (hkp.out.below HI.out.bel.size (fun b e => (HI.out.own.lt b e).1)), HI.out.at_.step (by rw [bl_len]; exact hk) (by rw [dropZ_step _ _ _ hb.out]; rw [if_neg H2.out, if_neg (fun q => H4.out q.1), if_neg (fun q => H7.out q.1)])⟩⟩
              case measure => simp [intOf]; omega
            · go_wp2_with (at_builtin; refine app1n (w := wr) (.tmp 78) (.tmp 80) 22 5 w.heap.size 1 1 #[.int .u8 0] #[.int .u8 ((c : Int))] (.slice a acc.length cc) acc.length _ rfl rfl rfl rfl rfl Tryd.underlying22 info5 rfl (by omega) HI.out.own rfl (one5 _) (by omega) (by omega) HI.out.bel.size ?_; intro v2 w2 h2 hkp hnw; replace h2 := Lib.hid h2; replace hkp := Lib.hid hkp; clear hnw)
              go_roundw
              case rel => exact ⟨k + 1, v2, acc ++ [(c : Int)], rfl, by go_num, ⟨by omega, by simp; omega, by simpa using h2.out, HI.out.bel.trans (hkp.out.below HI.out.bel.size (fun b e => (HI.out.own.lt b e).1)), HI.out.at_.step (by rw [bl_len]; exact hk) (by rw [dropZ_step _ _ _ hb.out]; rw [if_neg H2.out, if_neg (fun q => H4.out q.1), if_neg (fun q => H7.out q.1)])⟩⟩
              case measure => simp [intOf]; omega
    · obtain rfl : k = s.size := by omega
      have hf : Hid (foldZ (bl s) = acc) := Lib.hid (by
        have := HI.out.at_
        rw [← bl_len] at this
        exact this.full)
      have hcv : (convert 22 9 (.slice a acc.length cc)).run Tryd.prog wr = .ok (.string (strOfNums acc)) wr := by
        rcases HI.out.own.2 with ⟨e, -⟩ | ⟨g, cap, cur, e, -⟩
        · injection e with e1 e2 e3
          subst e1; subst e3
          have hacc : acc = [] := List.eq_nil_of_length_eq_zero e2
          subst hacc
          exact run_convert_bytes_nil (P := Tryd.prog) wr 22 5 Tryd.underlying22 Tryd.underlying5 _ _ 9 Tryd.underlying9
        · injection e with e1 e2 e3
          subst e1
          exact run_convert_bytes_arg (P := Tryd.prog) wr 22 5 Tryd.underlying22 Tryd.underlying5 g 0 acc.length cc acc rfl (fun i hi => by
            have := HI.out.own.cellAt i (by omega)
            rw [Nat.zero_add, this]
            simp [byteVs, hi]) 9 Tryd.underlying9
      go_wp2
      go_ret
      rw [hf.out]
      exact ⟨rfl, HI.out.bel⟩
end Go.Proofs.YtpjbhbbhkhfiaaaDoor
