/- The law's own folding of a text, walked. -/
import Derived.Test.YtlmnnejfcieddaaDoorAn
import Derived.Test.YtlmnnejfcieddaaDoorMk
import Derived.Laws.BytesArg
import Derived.OwnWalk
set_option linter.unusedVariables false
set_option linter.unusedSimpArgs false
namespace Go.Proofs.YtlmnnejfcieddaaDoor
open Go.RowKit
/-- the bytes of a text as numbers -/
def bl (s : ByteArray) : List Int := s.data.toList.map fun b => (b.toNat : Int)
theorem bl_len (s : ByteArray) : (bl s).length = s.size := by unfold bl; rw [List.length_map]; exact Array.length_toList
theorem bl_at (s : ByteArray) (k : Nat) (h : k < s.size) : (bl s)[k]? = some ((s[k]'h).toNat : Int) := by
  have h' : k < s.data.size := h
  unfold bl
  rw [List.getElem?_map, Array.getElem?_toList, Array.getElem?_eq_getElem h']
  rfl
def lowb (c : Int) : Int := if 65 ≤ c ∧ c ≤ 90 then c + 32 else c
/-- the first letter of a text folded, and how many bytes it takes -/
def stepF : List Int → Option (Int × Nat)
  | [] => none
  | c :: r => if c < 128 then some (lowb c, 1) else if c = 196 ∧ r[0]? = some 176 then some (105, 2) else if c = 226 ∧ r[0]? = some 132 ∧ r[1]? = some 170 then some (107, 3) else none
theorem stepF_pos {l : List Int} {b : Int} {d : Nat} (h : stepF l = some (b, d)) : 1 ≤ d ∧ d ≤ l.length := by
  cases l with
  | nil => cases h
  | cons c r =>
    have e : (c :: r).length = r.length + 1 := rfl
    simp only [stepF] at h
    by_cases h1 : c < 128
    · rw [if_pos h1] at h; cases h; omega
    · rw [if_neg (show ¬ (c : Int) < 128 by omega)] at h
      by_cases h2 : c = 196 ∧ r[0]? = some 176
      · rw [if_pos h2] at h; cases h
        have := (List.getElem?_eq_some_iff.1 h2.2).1
        omega
      · rw [if_neg h2] at h
        by_cases h3 : c = 226 ∧ r[0]? = some 132 ∧ r[1]? = some 170
        · rw [if_pos h3] at h; cases h
          have := (List.getElem?_eq_some_iff.1 h3.2.2).1
          omega
        · rw [if_neg h3] at h; cases h
def foldGo : Nat → List Int → Option (List Int)
  | 0, _ => some []
  | n + 1, l => if l = [] then some [] else match stepF l with
    | some (b, d) => (foldGo n (l.drop d)).map (fun x => b :: x)
    | none => none
theorem foldGo_succ (n : Nat) (l : List Int) : foldGo (n + 1) l = if l = [] then some [] else match stepF l with
    | some (b, d) => (foldGo n (l.drop d)).map (fun x => b :: x)
    | none => none := rfl
theorem foldGo_enough : ∀ (n : Nat) (l : List Int), l.length ≤ n → foldGo n l = foldGo l.length l := by
  intro n
  induction n using Nat.strongRecOn with
  | ind n ih =>
    intro l hl
    cases n with
    | zero =>
      have : l = [] := List.eq_nil_of_length_eq_zero (by omega)
      subst this; rfl
    | succ n =>
      by_cases hl0 : l = []
      · subst hl0; simp [foldGo]
      · obtain ⟨c, r, rfl⟩ : ∃ c r, l = c :: r := by cases l with | nil => exact absurd rfl hl0 | cons c r => exact ⟨c, r, rfl⟩
        have e : (c :: r).length = r.length + 1 := rfl
        rw [e]
        rw [foldGo_succ, foldGo_succ, if_neg hl0, if_neg hl0]
        cases hs : stepF (c :: r) with
        | none => rfl
        | some x =>
          obtain ⟨b, d⟩ := x
          have := stepF_pos hs
          simp only
          have hd : ((c :: r).drop d).length ≤ r.length := by rw [List.length_drop]; simp; omega
          simp at hl
          rw [ih n (by omega) _ (by omega)]
          by_cases hn : r.length < n + 1
          · rw [ih r.length (by omega) _ hd]
          · omega
def foldD (l : List Int) : Option (List Int) := foldGo l.length l
theorem foldD_nil : foldD [] = some [] := rfl
theorem foldD_step {l : List Int} (hl : l ≠ []) : foldD l = match stepF l with
    | some (b, d) => (foldD (l.drop d)).map (fun x => b :: x)
    | none => none := by
  obtain ⟨c, r, rfl⟩ : ∃ c r, l = c :: r := by cases l with | nil => exact absurd rfl hl | cons c r => exact ⟨c, r, rfl⟩
  unfold foldD
  rw [show (c :: r).length = r.length + 1 from rfl, foldGo_succ, if_neg hl]
  cases hs : stepF (c :: r) with
  | none => rfl
  | some x =>
    obtain ⟨b, d⟩ := x
    have := stepF_pos hs
    simp only
    rw [foldGo_enough r.length _ (by rw [List.length_drop]; simp; omega)]
/-- where the loop stands -/
def At (L : List Int) (k : Nat) (acc : List Int) : Prop := foldD L = (foldD (L.drop k)).map (fun x => acc ++ x)
theorem At.start (L : List Int) : At L 0 [] := by unfold At; simp only [List.drop_zero, List.nil_append]; cases foldD L <;> rfl
theorem At.step {L : List Int} {k : Nat} {acc : List Int} (h : At L k acc) (hk : k < L.length) {b : Int} {d : Nat} (hs : stepF (L.drop k) = some (b, d)) : At L (k + d) (acc ++ [b]) := by
  unfold At at *
  rw [h, foldD_step (by intro e; have := congrArg List.length e; simp at this; omega), hs]
  simp only [List.drop_drop]
  cases foldD (L.drop (k + d)) <;> simp
theorem At.stop {L : List Int} {k : Nat} {acc : List Int} (h : At L k acc) (hk : k < L.length) (hs : stepF (L.drop k) = none) : foldD L = none := by
  unfold At at h
  rw [h, foldD_step (by intro e; have := congrArg List.length e; simp at this; omega), hs]
  rfl
theorem At.full {L : List Int} {acc : List Int} (h : At L L.length acc) : foldD L = some acc := by
  unfold At at h
  rw [h]; simp [foldD_nil]
theorem drop_step (L : List Int) (k : Nat) (c : Int) (h : L[k]? = some c) : stepF (L.drop k) = if c < 128 then some (lowb c, 1) else if c = 196 ∧ L[k + 1]? = some 176 then some (105, 2) else if c = 226 ∧ L[k + 1]? = some 132 ∧ L[k + 2]? = some 170 then some (107, 3) else none := by
  have hk := (List.getElem?_eq_some_iff.1 h)
  obtain ⟨hk, e⟩ := hk
  rw [List.drop_eq_getElem_cons hk, e]
  unfold stepF
  simp only [List.getElem?_drop, Nat.add_zero]
abbrev byteVs (xs : List Int) : List Value := xs.map (Value.int .u8)
def FoldB (s : ByteArray) (w : World) (e : Ending) (w' : World) : Prop :=
  e = .returned (.tuple #[.string (match foldD (bl s) with | some x => strOfNums x | none => ⟨#[]⟩), .bool (foldD (bl s)).isSome]) ∧ Below w.heap.size w w'
theorem info5 : (Tryd.prog.info? 5).map (fun i => (i.zero.map (·.cells), i.size, i.bytes)) = some (some #[.int .u8 0], 1, 1) := by kernel_rfl
theorem one5 (x : Int) : (#[Value.int .u8 x] : Array Value).all (·.oneCell') = true := by rw [Array.all_eq_true']; intro u hu; simp at hu; subst hu; rfl
/-- how the loop stands -/
structure FoIt (s : ByteArray) (w wr : World) (k : Nat) (v : Value) (acc : List Int) : Prop where
  le : k ≤ s.size
  len : acc.length ≤ k
  own : wr.ownsRow w.heap.size 5 1 v acc.length (byteVs acc)
  bel : Below w.heap.size w wr
  at_ : At (bl s) k acc
set_option maxRecDepth 100000 in
set_option maxHeartbeats 2000000 in
theorem fold28_c (s : ByteArray) (w : World) (hs : s.size ≤ 1048576) : Calls Tryd.prog 28 #[.string s] w (FoldB s w) := by
  have hmk := make0_z (P := Tryd.prog) #[.int .u8 0] Tryd.underlying22 info5 s.size hs (by omega) w
  go_enter Tryd.func28, Tryd.ntmps28
  go_upto_region 2 with fail
  refine wp_gen (fun W hW => ?_)
  have H0 : Hid (FoIt s w W 0 (.slice (some ⟨w.heap.size, 0, none⟩) 0 s.size) []) := Lib.hid ⟨by omega, by simp, by rw [hW]; exact World.ownsRow_made w _ s.size (Nat.le_refl _) (by unfold maxLen; omega) (by simp [size_madeCells]), by rw [hW]; exact ba _ _, At.start _⟩
  clear hW hmk
  go_wp2
  go_loopw [4, 5] (fun u i wr => ∃ (k : Nat) (v : Value) (acc : List Int), u = v ∧ i = .int .i64 k ∧ FoIt s w wr k v acc) (fun _ i _ => s.size - (intOf i).toNat)
  case atStart => exact ⟨0, _, [], rfl, rfl, H0.out⟩
  case round =>
    clear H0
    obtain ⟨k, v, acc, rfl, rfl, HI⟩ := hrel
    obtain ⟨a, cc, e, -, -⟩ := own_shape HI.own
    subst e
    replace HI := Lib.hid HI
    have l1 := HI.out.le
    have l2 := HI.out.len
    by_cases hk : k < s.size
    · have hb := bl_at s k hk
      obtain ⟨c, hc⟩ : ∃ c : Nat, c = (s[k]'hk).toNat := ⟨_, rfl⟩
      have hc255 : c ≤ 255 := by rw [hc]; exact Nat.le_of_lt_succ (UInt8.toNat_lt _)
      rw [← hc] at hb
      replace hb := Lib.hid hb
      have hc' : (s[k]'hk).toNat = c := hc.symm
      clear hc
      go_upto_region 5 with fail
      clear hc'
      by_cases h1 : (c : Int) < 128
      · by_cases h2 : (65 : Int) ≤ c
        · by_cases h3 : (c : Int) ≤ 90
          · have w1 : (c : Int) + 32 ≤ 255 := by omega
            go_wp2_with (at_builtin; refine app1n (w := wr) (.tmp 27) (.tmp 29) 22 5 w.heap.size 1 1 #[.int .u8 0] #[.int .u8 ((c : Int) + 32)] (.slice a acc.length cc) acc.length _ rfl rfl rfl rfl rfl Tryd.underlying22 info5 rfl (by omega) HI.out.own rfl (one5 _) (by omega) (by omega) HI.out.bel.size ?_; intro v2 w2 h2 hkp hnw; replace h2 := Lib.hid h2; replace hkp := Lib.hid hkp; clear hnw)
            go_roundw
            case rel => exact ⟨k + 1, v2, acc ++ [(c : Int) + 32], rfl, by go_num, ⟨by omega, by simp; omega, by simpa using h2.out, HI.out.bel.trans (hkp.out.below HI.out.bel.size (fun b e => (HI.out.own.lt b e).1)), HI.out.at_.step (by rw [bl_len]; exact hk) (by rw [drop_step _ _ _ hb.out]; rw [if_pos h1]; unfold lowb; rw [if_pos (by omega)])⟩⟩
            case measure => simp [intOf]; omega
          · go_wp2_with (at_builtin; refine app1n (w := wr) (.tmp 27) (.tmp 29) 22 5 w.heap.size 1 1 #[.int .u8 0] #[.int .u8 (c)] (.slice a acc.length cc) acc.length _ rfl rfl rfl rfl rfl Tryd.underlying22 info5 rfl (by omega) HI.out.own rfl (one5 _) (by omega) (by omega) HI.out.bel.size ?_; intro v2 w2 h2 hkp hnw; replace h2 := Lib.hid h2; replace hkp := Lib.hid hkp; clear hnw)
            go_roundw
            case rel => exact ⟨k + 1, v2, acc ++ [(c : Int)], rfl, by go_num, ⟨by omega, by simp; omega, by simpa using h2.out, HI.out.bel.trans (hkp.out.below HI.out.bel.size (fun b e => (HI.out.own.lt b e).1)), HI.out.at_.step (by rw [bl_len]; exact hk) (by rw [drop_step _ _ _ hb.out]; rw [if_pos h1]; unfold lowb; rw [if_neg (by omega)])⟩⟩
            case measure => simp [intOf]; omega
        · go_wp2_with (at_builtin; refine app1n (w := wr) (.tmp 27) (.tmp 29) 22 5 w.heap.size 1 1 #[.int .u8 0] #[.int .u8 (c)] (.slice a acc.length cc) acc.length _ rfl rfl rfl rfl rfl Tryd.underlying22 info5 rfl (by omega) HI.out.own rfl (one5 _) (by omega) (by omega) HI.out.bel.size ?_; intro v2 w2 h2 hkp hnw; replace h2 := Lib.hid h2; replace hkp := Lib.hid hkp; clear hnw)
          go_roundw
          case rel => exact ⟨k + 1, v2, acc ++ [(c : Int)], rfl, by go_num, ⟨by omega, by simp; omega, by simpa using h2.out, HI.out.bel.trans (hkp.out.below HI.out.bel.size (fun b e => (HI.out.own.lt b e).1)), HI.out.at_.step (by rw [bl_len]; exact hk) (by rw [drop_step _ _ _ hb.out]; rw [if_pos h1]; unfold lowb; rw [if_neg (by omega)])⟩⟩
          case measure => simp [intOf]; omega
      · have h1' : ¬ (c : Int) < 128 := h1
        have stop : stepF ((bl s).drop k) = none → foldD (bl s) = none := fun h => HI.out.at_.stop (by rw [bl_len]; exact hk) h
        replace stop := Lib.hid stop
        have fin : foldD (bl s) = none → FoldB s w (.returned (.tuple #[.string ⟨#[]⟩, .bool false])) wr := fun h => by unfold FoldB; rw [h]; exact ⟨rfl, HI.out.bel⟩
        replace fin := Lib.hid fin
        by_cases h4 : (c : Int) = 196
        · by_cases h5 : k + 1 < s.size
          · have hb1 := bl_at s (k + 1) h5
            obtain ⟨d, hd⟩ : ∃ d : Nat, d = (s[k + 1]'h5).toNat := ⟨_, rfl⟩
            rw [← hd] at hb1
            have hd' : (s[k + 1]'h5).toNat = d := hd.symm
            have hd255 : d ≤ 255 := by rw [hd]; exact Nat.le_of_lt_succ (UInt8.toNat_lt _)
            clear hd
            replace hb1 := Lib.hid hb1
            by_cases h6 : (d : Int) = 176
            · go_wp2_with (at_builtin; refine app1n (w := wr) (.tmp 49) (.tmp 50) 22 5 w.heap.size 1 1 #[.int .u8 0] #[.int .u8 (105)] (.slice a acc.length cc) acc.length _ rfl rfl rfl rfl rfl Tryd.underlying22 info5 rfl (by omega) HI.out.own rfl (one5 _) (by omega) (by omega) HI.out.bel.size ?_; intro v2 w2 h2 hkp hnw; replace h2 := Lib.hid h2; replace hkp := Lib.hid hkp; clear hnw)
              go_roundw
              case rel => exact ⟨k + 2, v2, acc ++ [105], rfl, by go_num, ⟨by omega, by simp; omega, by simpa using h2.out, HI.out.bel.trans (hkp.out.below HI.out.bel.size (fun b e => (HI.out.own.lt b e).1)), HI.out.at_.step (by rw [bl_len]; exact hk) (by rw [drop_step _ _ _ hb.out]; rw [if_neg (show ¬ (c : Int) < 128 by omega), if_pos ⟨h4, by rw [hb1.out, h6]⟩])⟩⟩
              case measure => simp [intOf]; omega
            · have n1 : ¬ ((c : Int) = 196 ∧ (bl s)[k + 1]? = some 176) := fun q => by rw [hb1.out] at q; exact h6 (Option.some.inj q.2)
              have n1 := Lib.hid n1
              by_cases h8 : k + 2 < s.size
              all_goals go_wp2
              all_goals refine bodyPost_ret (v := .tuple #[.string ⟨#[]⟩, .bool false]) (by simp [results, Tryd.results28, go_sem]) rfl (fin.out (stop.out (by rw [drop_step _ _ _ hb.out, if_neg (show ¬ (c : Int) < 128 by omega), if_neg n1.out, if_neg (fun q => by omega)])))
          · have h8 : ¬ (k + 2 < s.size) := by omega
            have n1 : ¬ ((c : Int) = 196 ∧ (bl s)[k + 1]? = some 176) := fun q => by have := (List.getElem?_eq_some_iff.1 q.2).1; rw [bl_len] at this; omega
            replace n1 := Lib.hid n1
            go_wp2
            refine bodyPost_ret (v := .tuple #[.string ⟨#[]⟩, .bool false]) (by simp [results, Tryd.results28, go_sem]) rfl (fin.out (stop.out (by rw [drop_step _ _ _ hb.out, if_neg (show ¬ (c : Int) < 128 by omega), if_neg n1.out, if_neg (fun q => by omega)])))
        · by_cases h7 : (c : Int) = 226
          · by_cases h8 : k + 2 < s.size
            · have h5 : k + 1 < s.size := by omega
              have hb1 := bl_at s (k + 1) h5
              obtain ⟨d, hd⟩ : ∃ d : Nat, d = (s[k + 1]'h5).toNat := ⟨_, rfl⟩
              rw [← hd] at hb1
              have hd' : (s[k + 1]'h5).toNat = d := hd.symm
              have hd255 : d ≤ 255 := by rw [hd]; exact Nat.le_of_lt_succ (UInt8.toNat_lt _)
              clear hd
              replace hb1 := Lib.hid hb1
              have hb2 := bl_at s (k + 2) h8
              obtain ⟨d2, hd2⟩ : ∃ d2 : Nat, d2 = (s[k + 2]'h8).toNat := ⟨_, rfl⟩
              rw [← hd2] at hb2
              have hd2' : (s[k + 2]'h8).toNat = d2 := hd2.symm
              have hd2255 : d2 ≤ 255 := by rw [hd2]; exact Nat.le_of_lt_succ (UInt8.toNat_lt _)
              clear hd2
              replace hb2 := Lib.hid hb2
              by_cases h9 : (d : Int) = 132
              · by_cases h10 : (d2 : Int) = 170
                · go_wp2_with (at_builtin; refine app1n (w := wr) (.tmp 77) (.tmp 78) 22 5 w.heap.size 1 1 #[.int .u8 0] #[.int .u8 (107)] (.slice a acc.length cc) acc.length _ rfl rfl rfl rfl rfl Tryd.underlying22 info5 rfl (by omega) HI.out.own rfl (one5 _) (by omega) (by omega) HI.out.bel.size ?_; intro v2 w2 h2 hkp hnw; replace h2 := Lib.hid h2; replace hkp := Lib.hid hkp; clear hnw)
                  go_roundw
                  case rel => exact ⟨k + 3, v2, acc ++ [107], rfl, by go_num, ⟨by omega, by simp; omega, by simpa using h2.out, HI.out.bel.trans (hkp.out.below HI.out.bel.size (fun b e => (HI.out.own.lt b e).1)), HI.out.at_.step (by rw [bl_len]; exact hk) (by rw [drop_step _ _ _ hb.out]; rw [if_neg (show ¬ (c : Int) < 128 by omega), if_neg (fun q => h4 q.1), if_pos ⟨h7, by rw [hb1.out, h9], by rw [hb2.out, h10]⟩])⟩⟩
                  case measure => simp [intOf]; omega
                · have n1 : ¬ ((c : Int) = 226 ∧ (bl s)[k + 1]? = some 132 ∧ (bl s)[k + 2]? = some 170) := fun q => by rw [hb2.out] at q; exact h10 (Option.some.inj q.2.2)
                  replace n1 := Lib.hid n1
                  go_wp2
                  refine bodyPost_ret (v := .tuple #[.string ⟨#[]⟩, .bool false]) (by simp [results, Tryd.results28, go_sem]) rfl (fin.out (stop.out (by rw [drop_step _ _ _ hb.out, if_neg (show ¬ (c : Int) < 128 by omega), if_neg (fun q => h4 q.1), if_neg n1.out])))
              · have n1 : ¬ ((c : Int) = 226 ∧ (bl s)[k + 1]? = some 132 ∧ (bl s)[k + 2]? = some 170) := fun q => by rw [hb1.out] at q; exact h9 (Option.some.inj q.2.1)
                replace n1 := Lib.hid n1
                go_wp2
                refine bodyPost_ret (v := .tuple #[.string ⟨#[]⟩, .bool false]) (by simp [results, Tryd.results28, go_sem]) rfl (fin.out (stop.out (by rw [drop_step _ _ _ hb.out, if_neg (show ¬ (c : Int) < 128 by omega), if_neg (fun q => h4 q.1), if_neg n1.out])))
            · have n1 : ¬ ((c : Int) = 226 ∧ (bl s)[k + 1]? = some 132 ∧ (bl s)[k + 2]? = some 170) := fun q => by have := (List.getElem?_eq_some_iff.1 q.2.2).1; rw [bl_len] at this; omega
              replace n1 := Lib.hid n1
              by_cases h5 : k + 1 < s.size
              all_goals go_wp2
              all_goals refine bodyPost_ret (v := .tuple #[.string ⟨#[]⟩, .bool false]) (by simp [results, Tryd.results28, go_sem]) rfl (fin.out (stop.out (by rw [drop_step _ _ _ hb.out, if_neg (show ¬ (c : Int) < 128 by omega), if_neg (fun q => h4 q.1), if_neg n1.out])))
          · have h4' := Lib.hid h4; have h7' := Lib.hid h7
            have n0 : ((c : Int) == 196) = false := by simpa using h4
            have n2 : ((c : Int) == 226) = false := by simpa using h7
            by_cases h5 : k + 1 < s.size <;> by_cases h8 : k + 2 < s.size
            all_goals go_wp2
            all_goals refine bodyPost_ret (v := .tuple #[.string ⟨#[]⟩, .bool false]) (by simp [results, Tryd.results28, go_sem]) rfl (fin.out (stop.out (by rw [drop_step _ _ _ hb.out, if_neg (show ¬ (c : Int) < 128 by omega), if_neg (fun q => h4'.out q.1), if_neg (fun q => h7'.out q.1)])))
    · obtain rfl : k = s.size := by omega
      have hf : Hid (foldD (bl s) = some acc) := Lib.hid (by
        have := HI.out.at_
        rw [← bl_len] at this
        exact this.full)
      have hcv : (convert 22 9 (.slice a acc.length cc)).run Tryd.prog wr = .ok (.string (strOfNums acc)) wr := by
        rcases HI.out.own.2 with ⟨e, -⟩ | ⟨g, cap, cur, e, -⟩
        · injection e with e1 e2 e3
          subst e1; subst e3
          have hacc : acc = [] := List.eq_nil_of_length_eq_zero e2
          subst hacc
          exact run_convert_bytes_nil (P := Tryd.prog) wr 22 5 Tryd.underlying22 Tryd.underlying5 _ _ 9 Tryd.underlying9
        · injection e with e1 e2 e3
          subst e1
          exact run_convert_bytes_arg (P := Tryd.prog) wr 22 5 Tryd.underlying22 Tryd.underlying5 g 0 acc.length cc acc rfl (fun i hi => by
            have := HI.out.own.cellAt i (by omega)
            rw [Nat.zero_add, this]
            simp [byteVs, hi]) 9 Tryd.underlying9
      go_wp2
      refine bodyPost_ret (v := .tuple #[.string (strOfNums acc), .bool true]) (by simp [results, Tryd.results28, go_sem]) rfl ?_
      unfold FoldB
      rw [hf.out]
      exact ⟨rfl, HI.out.bel⟩
end Go.Proofs.YtlmnnejfcieddaaDoor
