/- FnMangleTransformsIdempotentOnNumbers: the plain law, and the names in lower case. -/
import Derived.Test.YtoblbakaemglbaaFmtMth
import Derived.Lib.MapLaws
import Derived.Lib.TrimAscii
import Derived.Lib.LaidCaseMet
set_option linter.unusedVariables false
set_option linter.unusedSimpArgs false
namespace Go.Proofs.YtoblbakaemglbaaFmt
open Go.RowKit
open Go.Lib
def lwN (c : Int) : Int := if 65 ≤ c ∧ c ≤ 90 then c + 32 else c
theorem low_step (l : List UInt8) (hne : l ≠ []) : toLowerD l = (if 0 ≤ toLowerU (decodeL l).1 then encodeRune (toLowerU (decodeL l).1) else []) ++ toLowerD (l.drop (decodeL l).2) := mapD_step toLowerU l hne
theorem enc_one (r : Int) (h0 : 0 ≤ r) (h1 : r < 128) : encodeRune r = [UInt8.ofNat r.toNat] := by
  unfold encodeRune
  rw [encodeRuneZ_one h0 (by omega)]
  rfl
theorem low_ascii (r : Int) (h : r < 128) : toLowerU r = lwN r := by
  unfold toLowerU lwN
  rw [if_pos (by omega)]
theorem lower_list : ∀ l : List UInt8, (∀ c ∈ l, c.toNat < 128) → toLowerD l = l.map fun c => UInt8.ofNat (lwN c.toNat).toNat := by
  intro l
  induction l with
  | nil => intro _; rfl
  | cons c t ih =>
    intro h
    have hc := h c (by simp)
    have hst := low_step (c :: t) (by simp)
    have hdec := decodeL_ascii c t hc
    rw [hdec] at hst
    have e : toLowerU ((c.toNat : Nat) : Int) = lwN c.toNat := low_ascii _ (by omega)
    have hr : 0 ≤ lwN (c.toNat : Int) ∧ lwN (c.toNat : Int) < 128 := by unfold lwN; split <;> omega
    simp only at hst
    rw [e, if_pos hr.1, enc_one _ hr.1 hr.2] at hst
    rw [hst]
    show _ :: toLowerD (List.drop 1 (c :: t)) = _
    rw [List.drop_succ_cons, List.drop_zero, ih (fun d hd => h d (by simp [hd]))]
    rfl
/-- strings.ToLower's text -/
def lowS (s : ByteArray) : ByteArray := ⟨(toLowerD s.data.toList).toArray⟩
theorem lowS_of {s t : ByteArray} (h1 : (s.data.toList.all fun c => decide (c.toNat < 128)) = true) (h2 : (s.data.toList.map fun c => UInt8.ofNat (lwN c.toNat).toNat) = t.data.toList) : lowS s = t := by
  unfold lowS
  rw [lower_list _ (fun c hc => by have := List.all_eq_true.1 h1 c hc; simpa using this), h2]
theorem lo0 : lowS ⟨#[115, 99, 97, 108, 101]⟩ = ⟨#[115, 99, 97, 108, 101]⟩ := lowS_of (by decide) (by decide)
theorem lo1 : lowS ⟨#[115, 99, 97, 108, 101, 88]⟩ = ⟨#[115, 99, 97, 108, 101, 120]⟩ := lowS_of (by decide) (by decide)
theorem lo2 : lowS ⟨#[115, 99, 97, 108, 101, 89]⟩ = ⟨#[115, 99, 97, 108, 101, 121]⟩ := lowS_of (by decide) (by decide)
theorem lo3 : lowS ⟨#[116, 114, 97, 110, 115, 108, 97, 116, 101, 89]⟩ = ⟨#[116, 114, 97, 110, 115, 108, 97, 116, 101, 121]⟩ := lowS_of (by decide) (by decide)
theorem lo4 : lowS ⟨#[116, 114, 97, 110, 115, 108, 97, 116, 101]⟩ = ⟨#[116, 114, 97, 110, 115, 108, 97, 116, 101]⟩ := lowS_of (by decide) (by decide)
theorem lo5 : lowS ⟨#[114, 111, 116, 97, 116, 101]⟩ = ⟨#[114, 111, 116, 97, 116, 101]⟩ := lowS_of (by decide) (by decide)
theorem lo6 : lowS ⟨#[115, 107, 101, 119]⟩ = ⟨#[115, 107, 101, 119]⟩ := lowS_of (by decide) (by decide)
theorem lo7 : lowS ⟨#[115, 99, 97, 108, 101, 90]⟩ = ⟨#[115, 99, 97, 108, 101, 122]⟩ := lowS_of (by decide) (by decide)
theorem lo8 : lowS ⟨#[115, 99, 97, 108, 101, 51, 100]⟩ = ⟨#[115, 99, 97, 108, 101, 51, 100]⟩ := lowS_of (by decide) (by decide)
theorem lo9 : lowS ⟨#[116, 114, 97, 110, 115, 108, 97, 116, 101, 90]⟩ = ⟨#[116, 114, 97, 110, 115, 108, 97, 116, 101, 122]⟩ := lowS_of (by decide) (by decide)
theorem lo10 : lowS ⟨#[114, 111, 116, 97, 116, 101, 88]⟩ = ⟨#[114, 111, 116, 97, 116, 101, 120]⟩ := lowS_of (by decide) (by decide)
theorem lo11 : lowS ⟨#[114, 111, 116, 97, 116, 101, 89]⟩ = ⟨#[114, 111, 116, 97, 116, 101, 121]⟩ := lowS_of (by decide) (by decide)
theorem lowK (k : Int) (h0 : 0 ≤ k) (h1 : k < 22) : lowS (nameK k) = nameK k ∧ lowS (upA (nameK k)) = nameK k ∧ (nameK k).size ≤ 12 ∧ (upA (nameK k)).size ≤ 12 := by
  rcases (by omega : k = 0 ∨ k = 1 ∨ k = 2 ∨ k = 3 ∨ k = 4 ∨ k = 5 ∨ k = 6 ∨ k = 7 ∨ k = 8 ∨ k = 9 ∨ k = 10 ∨ k = 11 ∨ k = 12 ∨ k = 13 ∨ k = 14 ∨ k = 15 ∨ k = 16 ∨ k = 17 ∨ k = 18 ∨ k = 19 ∨ k = 20 ∨ k = 21) with rfl | rfl | rfl | rfl | rfl | rfl | rfl | rfl | rfl | rfl | rfl | rfl | rfl | rfl | rfl | rfl | rfl | rfl | rfl | rfl | rfl | rfl
  all_goals exact ⟨lowS_of (by decide) (by decide), lowS_of (by decide) (by decide), by decide, by decide⟩
theorem isZ_w (G : Nat → Tq) (o n j : Nat) : isZ (trm G o n j) = isZ (G j) := by
  unfold trm setW isZ
  split
  · rename_i h; subst h; simp only; split
    · rename_i h; rw [h]
    · rfl
  · split
    · rename_i h; rw [h]
    · rfl
theorem isO_w (G : Nat → Tq) (o n j : Nat) : isO (trm G o n j) = isO (G j) := by
  unfold trm setW isO
  split
  · rename_i h; subst h; simp only; split
    · rename_i h; rw [h]
    · rfl
  · split
    · rename_i h; rw [h]
    · rfl
theorem kd_w (G : Nat → Tq) (o n j : Nat) : (trm G o n j).kd = (G j).kd := by
  unfold trm setW
  split
  · rename_i h; subst h; simp only; split
    · rename_i h; rw [h]
    · rfl
  · split
    · rename_i h; rw [h]
    · rfl
theorem tx_w (G : Nat → Tq) (o n j : Nat) : (trm G o n j).tx = (G j).tx := by
  unfold trm setW
  split
  · rename_i h; subst h; simp only; split
    · rename_i h; rw [h]
    · rfl
  · split
    · rename_i h; rw [h]
    · rfl
theorem same_w (G : Nat → Tq) (o n i j : Nat) : same (trm G o n i) (trm G o n j) = same (G i) (G j) := by
  unfold same
  rw [kd_w, kd_w, tx_w, tx_w]
theorem mk_w (G : Nat → Tq) (o n p : Nat) : ∀ i, mk (trm G o n) p i = mk G p i
  | 0 => rfl
  | i + 1 => by simp only [mk]; rw [isZ_w, isO_w, mk_w G o n p i]
theorem mbit_w (G : Nat → Tq) (o n p : Nat) : mbit (trm G o n) p = mbit G p := by unfold mbit; rw [mk_w]
theorem bit_all : ∀ x : Fin 256, bits .and .u8 (bits .and .u8 (x.val : Int) 254) 254 = bits .and .u8 (x.val : Int) 254 ∧ bits .and .u8 (bits .and .u8 (x.val : Int) 253) 253 = bits .and .u8 (x.val : Int) 253 ∧ bits .and .u8 (bits .and .u8 (bits .and .u8 (bits .and .u8 (x.val : Int) 254) 253) 254) 253 = bits .and .u8 (bits .and .u8 (x.val : Int) 254) 253 := by decide +kernel
theorem bit_of (x : Int) (h0 : 0 ≤ x) (h1 : x ≤ 255) : bits .and .u8 (bits .and .u8 x 254) 254 = bits .and .u8 x 254 ∧ bits .and .u8 (bits .and .u8 x 253) 253 = bits .and .u8 x 253 ∧ bits .and .u8 (bits .and .u8 (bits .and .u8 (bits .and .u8 x 254) 253) 254) 253 = bits .and .u8 (bits .and .u8 x 254) 253 := by
  have := bit_all ⟨x.toNat, by omega⟩
  simp only at this
  rw [show ((x.toNat : Nat) : Int) = x by omega] at this
  exact this
theorem trm_trm (G : Nat → Tq) (o n : Nat) (hn : 1 ≤ n) (hw : ∀ j, 0 ≤ (G j).ws ∧ (G j).ws ≤ 255) : trm (trm G o n) o n = trm G o n := by
  have ho := bit_of _ (hw o).1 (hw o).2
  have hl := bit_of _ (hw (o + n - 1)).1 (hw (o + n - 1)).2
  by_cases h1 : n = 1
  · subst h1
    funext j
    have e : o + 1 - 1 = o := by omega
    unfold trm setW
    by_cases hj : j = o
    · subst hj
      simp only [Nat.add_sub_cancel, if_true]
      rw [ho.2.2]
    · simp [hj]
  · have ne : ¬ o + n - 1 = o := by omega
    funext j
    unfold trm setW
    by_cases hj : j = o
    · subst hj
      have ne' : ¬ j = j + n - 1 := fun q => ne q.symm
      simp only [ne', ne, if_true, if_false]
      rw [ho.1]
    · by_cases hj2 : j = o + n - 1
      · subst hj2
        simp only [ne, if_true, if_false]
        rw [hl.2.1]
      · simp [hj, hj2]
/-- what mangleTransforms does, the bits taken from the state -/
def amt (k : Nat) (s : St) : St := arm (mbit s.G s.o) k s
/-- plain: a second run leaves what the first one has made -/
theorem plain (k : Nat) (hk : k < 22) (s : St) (hn : 1 ≤ s.n) (hnm : lowS s.nm = nameK k ∧ s.nm.size ≤ 12) (hw : ∀ j, 0 ≤ (s.G j).ws ∧ (s.G j).ws ≤ 255) : ∃ k1, k1 < 22 ∧ lowS (amt k s).nm = nameK (k1 : Nat) ∧ (amt k s).nm.size ≤ 12 ∧ trim (amt k1 (trim (amt k s))) = trim (amt k s) ∧ 1 ≤ (amt k s).n := by
  obtain ⟨nm, G, o, n⟩ := s
  simp only at hn hnm hw
  have fin : ∀ (nm' : ByteArray) (G' : Nat → Tq) (o' n' k1 : Nat), 1 ≤ n' → (∀ j, 0 ≤ (G' j).ws ∧ (G' j).ws ≤ 255) → (∀ b, b = mbit G' o' → arm b k1 (trim ⟨nm', G', o', n'⟩) = trim ⟨nm', G', o', n'⟩) → trim (amt k1 (trim ⟨nm', G', o', n'⟩)) = trim ⟨nm', G', o', n'⟩ := by
    intro nm' G' o' n' k1 h1 h2 h3
    have : amt k1 (trim ⟨nm', G', o', n'⟩) = trim ⟨nm', G', o', n'⟩ := h3 _ (mbit_w G' o' n' o')
    rw [this]
    show (⟨nm', trm (trm G' o' n') o' n', o', n'⟩ : St) = ⟨nm', trm G' o' n', o', n'⟩
    rw [trm_trm G' o' n' h1 h2]
  rcases (by omega : k = 0 ∨ k = 1 ∨ k = 2 ∨ k = 3 ∨ k = 4 ∨ k = 5 ∨ k = 6 ∨ k = 7 ∨ k = 8 ∨ k = 9 ∨ k = 10 ∨ k = 11 ∨ k = 12 ∨ k = 13 ∨ k = 14 ∨ k = 15 ∨ k = 16 ∨ k = 17 ∨ k = 18 ∨ k = 19 ∨ k = 20 ∨ k = 21) with rfl | rfl | rfl | rfl | rfl | rfl | rfl | rfl | rfl | rfl | rfl | rfl | rfl | rfl | rfl | rfl | rfl | rfl | rfl | rfl | rfl | rfl
  · by_cases h11 : n = 11
    · subst h11
      cases hp : (isZ (G (o + 2)) && isZ (G (o + 4)) && isZ (G (o + 8)) && isZ (G (o + 10))) with
      | false =>
        have ha : amt 0 ⟨nm, G, o, 11⟩ = ⟨nm, G, o, 11⟩ := by simp [amt, arm, hp]
        rw [ha]
        exact ⟨0, by omega, hnm.1, hnm.2, fin nm G o 11 0 (by omega) hw (fun b hb => by simp [arm, trim, isZ_w, isO_w, same_w, hp]), (show 1 ≤ 11 by omega)⟩
      | true =>
      cases hs : same (G o) (G (o + 6)) with
      | true =>
        have ha : amt 0 ⟨nm, G, o, 11⟩ = ⟨⟨#[115, 99, 97, 108, 101]⟩, G, o, 1⟩ := by simp [amt, arm, hp, hs]
        rw [ha]
        exact ⟨4, by omega, lo0, (show (⟨#[115, 99, 97, 108, 101]⟩ : ByteArray).size ≤ 12 by decide), fin ⟨#[115, 99, 97, 108, 101]⟩ G o 1 4 (by omega) hw (fun b hb => by simp [arm, trim, isZ_w, isO_w, same_w]), (show 1 ≤ 1 by omega)⟩
      | false =>
      cases h6 : isO (G (o + 6)) with
      | true =>
        have ha : amt 0 ⟨nm, G, o, 11⟩ = ⟨⟨#[115, 99, 97, 108, 101, 88]⟩, G, o, 1⟩ := by simp [amt, arm, hp, hs, h6]
        rw [ha]
        exact ⟨5, by omega, lo1, (show (⟨#[115, 99, 97, 108, 101, 88]⟩ : ByteArray).size ≤ 12 by decide), fin ⟨#[115, 99, 97, 108, 101, 88]⟩ G o 1 5 (by omega) hw (fun b hb => by simp [arm, trim, isZ_w, isO_w, same_w]), (show 1 ≤ 1 by omega)⟩
      | false =>
      cases h0 : isO (G o) with
      | true =>
        have ha : amt 0 ⟨nm, G, o, 11⟩ = ⟨⟨#[115, 99, 97, 108, 101, 89]⟩, G, (o + 6), 1⟩ := by simp [amt, arm, hp, hs, h6, h0]
        rw [ha]
        exact ⟨6, by omega, lo2, (show (⟨#[115, 99, 97, 108, 101, 89]⟩ : ByteArray).size ≤ 12 by decide), fin ⟨#[115, 99, 97, 108, 101, 89]⟩ G (o + 6) 1 6 (by omega) hw (fun b hb => by simp [arm, trim, isZ_w, isO_w, same_w]), (show 1 ≤ 1 by omega)⟩
      | false =>
        have ha : amt 0 ⟨nm, G, o, 11⟩ = ⟨⟨#[115, 99, 97, 108, 101]⟩, (fun j => if j = o + 2 then G (o + 6) else G j), o, 3⟩ := by simp [amt, arm, hp, hs, h6, h0]
        rw [ha]
        exact ⟨4, by omega, lo0, (show (⟨#[115, 99, 97, 108, 101]⟩ : ByteArray).size ≤ 12 by decide), fin ⟨#[115, 99, 97, 108, 101]⟩ (fun j => if j = o + 2 then G (o + 6) else G j) o 3 4 (by omega) (fun j => by (repeat' split) <;> exact hw _) (fun b hb => by simp [arm, trim, isZ_w, isO_w, same_w, hs, h6, h0]), (show 1 ≤ 3 by omega)⟩
    · have ha : amt 0 ⟨nm, G, o, n⟩ = ⟨nm, G, o, n⟩ := by simp [amt, arm, h11]
      rw [ha]
      exact ⟨0, by omega, hnm.1, hnm.2, fin nm G o n 0 (by omega) hw (fun b hb => by simp [arm, trim, isZ_w, isO_w, same_w, h11]), (show 1 ≤ n by omega)⟩
  · by_cases h3 : n = 3
    · subst h3
      cases h2 : isZ (G (o + 2)) with
      | true =>
        have ha : amt 1 ⟨nm, G, o, 3⟩ = ⟨nm, G, o, 1⟩ := by simp [amt, arm, h2]
        rw [ha]
        exact ⟨1, by omega, hnm.1, hnm.2, fin nm G o 1 1 (by omega) hw (fun b hb => by simp [arm, trim, isZ_w, isO_w, same_w]), (show 1 ≤ 1 by omega)⟩
      | false =>
      cases h0 : isZ (G o) with
      | true =>
        have ha : amt 1 ⟨nm, G, o, 3⟩ = ⟨⟨#[116, 114, 97, 110, 115, 108, 97, 116, 101, 89]⟩, G, (o + 2), 1⟩ := by simp [amt, arm, h2, h0]
        rw [ha]
        exact ⟨3, by omega, lo3, (show (⟨#[116, 114, 97, 110, 115, 108, 97, 116, 101, 89]⟩ : ByteArray).size ≤ 12 by decide), fin ⟨#[116, 114, 97, 110, 115, 108, 97, 116, 101, 89]⟩ G (o + 2) 1 3 (by omega) hw (fun b hb => by simp [arm, trim, isZ_w, isO_w, same_w]), (show 1 ≤ 1 by omega)⟩
      | false =>
        have ha : amt 1 ⟨nm, G, o, 3⟩ = ⟨nm, G, o, 3⟩ := by simp [amt, arm, h2, h0]
        rw [ha]
        exact ⟨1, by omega, hnm.1, hnm.2, fin nm G o 3 1 (by omega) hw (fun b hb => by simp [arm, trim, isZ_w, isO_w, same_w, h2, h0]), (show 1 ≤ 3 by omega)⟩
    · have ha : amt 1 ⟨nm, G, o, n⟩ = ⟨nm, G, o, n⟩ := by simp [amt, arm, h3]
      rw [ha]
      exact ⟨1, by omega, hnm.1, hnm.2, fin nm G o n 1 (by omega) hw (fun b hb => by simp [arm, trim, isZ_w, isO_w, same_w, h3]), (show 1 ≤ n by omega)⟩
  · by_cases h1 : n = 1
    · subst h1
      have ha : amt 2 ⟨nm, G, o, 1⟩ = ⟨⟨#[116, 114, 97, 110, 115, 108, 97, 116, 101]⟩, G, o, 1⟩ := by simp [amt, arm]
      rw [ha]
      exact ⟨1, by omega, lo4, (show (⟨#[116, 114, 97, 110, 115, 108, 97, 116, 101]⟩ : ByteArray).size ≤ 12 by decide), fin ⟨#[116, 114, 97, 110, 115, 108, 97, 116, 101]⟩ G o 1 1 (by omega) hw (fun b hb => by simp [arm, trim, isZ_w, isO_w, same_w]), (show 1 ≤ 1 by omega)⟩
    · have ha : amt 2 ⟨nm, G, o, n⟩ = ⟨nm, G, o, n⟩ := by simp [amt, arm, h1]
      rw [ha]
      exact ⟨2, by omega, hnm.1, hnm.2, fin nm G o n 2 (by omega) hw (fun b hb => by simp [arm, trim, isZ_w, isO_w, same_w, h1]), (show 1 ≤ n by omega)⟩
  · have ha : amt 3 ⟨nm, G, o, n⟩ = ⟨nm, G, o, n⟩ := by simp [amt, arm]
    rw [ha]
    exact ⟨3, by omega, hnm.1, hnm.2, fin nm G o n 3 (by omega) hw (fun b hb => by simp [arm, trim, isZ_w, isO_w, same_w]), (show 1 ≤ n by omega)⟩
  · by_cases h3 : n = 3
    · subst h3
      cases hs : same (G o) (G (o + 2)) with
      | true =>
        have ha : amt 4 ⟨nm, G, o, 3⟩ = ⟨nm, G, o, 1⟩ := by simp [amt, arm, hs]
        rw [ha]
        exact ⟨4, by omega, hnm.1, hnm.2, fin nm G o 1 4 (by omega) hw (fun b hb => by simp [arm, trim, isZ_w, isO_w, same_w]), (show 1 ≤ 1 by omega)⟩
      | false =>
      cases h2 : isO (G (o + 2)) with
      | true =>
        have ha : amt 4 ⟨nm, G, o, 3⟩ = ⟨⟨#[115, 99, 97, 108, 101, 88]⟩, G, o, 1⟩ := by simp [amt, arm, hs, h2]
        rw [ha]
        exact ⟨5, by omega, lo1, (show (⟨#[115, 99, 97, 108, 101, 88]⟩ : ByteArray).size ≤ 12 by decide), fin ⟨#[115, 99, 97, 108, 101, 88]⟩ G o 1 5 (by omega) hw (fun b hb => by simp [arm, trim, isZ_w, isO_w, same_w]), (show 1 ≤ 1 by omega)⟩
      | false =>
      cases h0 : isO (G o) with
      | true =>
        have ha : amt 4 ⟨nm, G, o, 3⟩ = ⟨⟨#[115, 99, 97, 108, 101, 89]⟩, G, (o + 2), 1⟩ := by simp [amt, arm, hs, h2, h0]
        rw [ha]
        exact ⟨6, by omega, lo2, (show (⟨#[115, 99, 97, 108, 101, 89]⟩ : ByteArray).size ≤ 12 by decide), fin ⟨#[115, 99, 97, 108, 101, 89]⟩ G (o + 2) 1 6 (by omega) hw (fun b hb => by simp [arm, trim, isZ_w, isO_w, same_w]), (show 1 ≤ 1 by omega)⟩
      | false =>
        have ha : amt 4 ⟨nm, G, o, 3⟩ = ⟨nm, G, o, 3⟩ := by simp [amt, arm, hs, h2, h0]
        rw [ha]
        exact ⟨4, by omega, hnm.1, hnm.2, fin nm G o 3 4 (by omega) hw (fun b hb => by simp [arm, trim, isZ_w, isO_w, same_w, hs, h2, h0]), (show 1 ≤ 3 by omega)⟩
    · have ha : amt 4 ⟨nm, G, o, n⟩ = ⟨nm, G, o, n⟩ := by simp [amt, arm, h3]
      rw [ha]
      exact ⟨4, by omega, hnm.1, hnm.2, fin nm G o n 4 (by omega) hw (fun b hb => by simp [arm, trim, isZ_w, isO_w, same_w, h3]), (show 1 ≤ n by omega)⟩
  · have ha : amt 5 ⟨nm, G, o, n⟩ = ⟨nm, G, o, n⟩ := by simp [amt, arm]
    rw [ha]
    exact ⟨5, by omega, hnm.1, hnm.2, fin nm G o n 5 (by omega) hw (fun b hb => by simp [arm, trim, isZ_w, isO_w, same_w]), (show 1 ≤ n by omega)⟩
  · have ha : amt 6 ⟨nm, G, o, n⟩ = ⟨nm, G, o, n⟩ := by simp [amt, arm]
    rw [ha]
    exact ⟨6, by omega, hnm.1, hnm.2, fin nm G o n 6 (by omega) hw (fun b hb => by simp [arm, trim, isZ_w, isO_w, same_w]), (show 1 ≤ n by omega)⟩
  · have ha : amt 7 ⟨nm, G, o, n⟩ = ⟨nm, G, o, n⟩ := by simp [amt, arm]
    rw [ha]
    exact ⟨7, by omega, hnm.1, hnm.2, fin nm G o n 7 (by omega) hw (fun b hb => by simp [arm, trim, isZ_w, isO_w, same_w]), (show 1 ≤ n by omega)⟩
  · by_cases h1 : n = 1
    · subst h1
      have ha : amt 8 ⟨nm, G, o, 1⟩ = ⟨⟨#[114, 111, 116, 97, 116, 101]⟩, G, o, 1⟩ := by simp [amt, arm]
      rw [ha]
      exact ⟨7, by omega, lo5, (show (⟨#[114, 111, 116, 97, 116, 101]⟩ : ByteArray).size ≤ 12 by decide), fin ⟨#[114, 111, 116, 97, 116, 101]⟩ G o 1 7 (by omega) hw (fun b hb => by simp [arm, trim, isZ_w, isO_w, same_w]), (show 1 ≤ 1 by omega)⟩
    · have ha : amt 8 ⟨nm, G, o, n⟩ = ⟨nm, G, o, n⟩ := by simp [amt, arm, h1]
      rw [ha]
      exact ⟨8, by omega, hnm.1, hnm.2, fin nm G o n 8 (by omega) hw (fun b hb => by simp [arm, trim, isZ_w, isO_w, same_w, h1]), (show 1 ≤ n by omega)⟩
  · by_cases h3 : n = 3
    · subst h3
      cases h2 : isZ (G (o + 2)) with
      | true =>
        have ha : amt 9 ⟨nm, G, o, 3⟩ = ⟨nm, G, o, 1⟩ := by simp [amt, arm, h2]
        rw [ha]
        exact ⟨9, by omega, hnm.1, hnm.2, fin nm G o 1 9 (by omega) hw (fun b hb => by simp [arm, trim, isZ_w, isO_w, same_w]), (show 1 ≤ 1 by omega)⟩
      | false =>
        have ha : amt 9 ⟨nm, G, o, 3⟩ = ⟨nm, G, o, 3⟩ := by simp [amt, arm, h2]
        rw [ha]
        exact ⟨9, by omega, hnm.1, hnm.2, fin nm G o 3 9 (by omega) hw (fun b hb => by simp [arm, trim, isZ_w, isO_w, same_w, h2]), (show 1 ≤ 3 by omega)⟩
    · have ha : amt 9 ⟨nm, G, o, n⟩ = ⟨nm, G, o, n⟩ := by simp [amt, arm, h3]
      rw [ha]
      exact ⟨9, by omega, hnm.1, hnm.2, fin nm G o n 9 (by omega) hw (fun b hb => by simp [arm, trim, isZ_w, isO_w, same_w, h3]), (show 1 ≤ n by omega)⟩
  · by_cases h1 : n = 1
    · subst h1
      have ha : amt 10 ⟨nm, G, o, 1⟩ = ⟨⟨#[115, 107, 101, 119]⟩, G, o, 1⟩ := by simp [amt, arm]
      rw [ha]
      exact ⟨9, by omega, lo6, (show (⟨#[115, 107, 101, 119]⟩ : ByteArray).size ≤ 12 by decide), fin ⟨#[115, 107, 101, 119]⟩ G o 1 9 (by omega) hw (fun b hb => by simp [arm, trim, isZ_w, isO_w, same_w]), (show 1 ≤ 1 by omega)⟩
    · have ha : amt 10 ⟨nm, G, o, n⟩ = ⟨nm, G, o, n⟩ := by simp [amt, arm, h1]
      rw [ha]
      exact ⟨10, by omega, hnm.1, hnm.2, fin nm G o n 10 (by omega) hw (fun b hb => by simp [arm, trim, isZ_w, isO_w, same_w, h1]), (show 1 ≤ n by omega)⟩
  · have ha : amt 11 ⟨nm, G, o, n⟩ = ⟨nm, G, o, n⟩ := by simp [amt, arm]
    rw [ha]
    exact ⟨11, by omega, hnm.1, hnm.2, fin nm G o n 11 (by omega) hw (fun b hb => by simp [arm, trim, isZ_w, isO_w, same_w]), (show 1 ≤ n by omega)⟩
  · by_cases h31 : n = 31
    · subst h31
      cases hb0 : mbit G o with
      | false =>
        have ha : amt 12 ⟨nm, G, o, 31⟩ = ⟨nm, G, o, 31⟩ := by simp [amt, arm, hb0]
        rw [ha]
        exact ⟨12, by omega, hnm.1, hnm.2, fin nm G o 31 12 (by omega) hw (fun b hb => by rw [hb0] at hb; subst hb; simp [arm, trim]), (show 1 ≤ 31 by omega)⟩
      | true =>
      cases hp : (isO (G o) && isO (G (o + 10))) with
      | true =>
        have ha : amt 12 ⟨nm, G, o, 31⟩ = ⟨⟨#[115, 99, 97, 108, 101, 90]⟩, G, (o + 20), 1⟩ := by simp [amt, arm, hb0, hp]
        rw [ha]
        exact ⟨16, by omega, lo7, (show (⟨#[115, 99, 97, 108, 101, 90]⟩ : ByteArray).size ≤ 12 by decide), fin ⟨#[115, 99, 97, 108, 101, 90]⟩ G (o + 20) 1 16 (by omega) hw (fun b hb => by simp [arm, trim, isZ_w, isO_w, same_w]), (show 1 ≤ 1 by omega)⟩
      | false =>
        have ha : amt 12 ⟨nm, G, o, 31⟩ = ⟨⟨#[115, 99, 97, 108, 101, 51, 100]⟩, (fun j => if j = o + 2 then G (o + 10) else if j = o + 3 then G (o + 11) else if j = o + 4 then G (o + 20) else G j), o, 5⟩ := by simp [amt, arm, hb0, hp]
        rw [ha]
        exact ⟨15, by omega, lo8, (show (⟨#[115, 99, 97, 108, 101, 51, 100]⟩ : ByteArray).size ≤ 12 by decide), fin ⟨#[115, 99, 97, 108, 101, 51, 100]⟩ (fun j => if j = o + 2 then G (o + 10) else if j = o + 3 then G (o + 11) else if j = o + 4 then G (o + 20) else G j) o 5 15 (by omega) (fun j => by (repeat' split) <;> exact hw _) (fun b hb => by simp [arm, trim, isZ_w, isO_w, same_w, hp]), (show 1 ≤ 5 by omega)⟩
    · have ha : amt 12 ⟨nm, G, o, n⟩ = ⟨nm, G, o, n⟩ := by simp [amt, arm, h31]
      rw [ha]
      exact ⟨12, by omega, hnm.1, hnm.2, fin nm G o n 12 (by omega) hw (fun b hb => by simp [arm, trim, isZ_w, isO_w, same_w, h31]), (show 1 ≤ n by omega)⟩
  · by_cases h5 : n = 5
    · subst h5
      cases h0 : isZ (G o) with
      | false =>
        have ha : amt 13 ⟨nm, G, o, 5⟩ = ⟨nm, G, o, 5⟩ := by simp [amt, arm, h0]
        rw [ha]
        exact ⟨13, by omega, hnm.1, hnm.2, fin nm G o 5 13 (by omega) hw (fun b hb => by simp [arm, trim, isZ_w, isO_w, same_w, h0]), (show 1 ≤ 5 by omega)⟩
      | true =>
      cases h2 : isZ (G (o + 2)) with
      | false =>
        have ha : amt 13 ⟨nm, G, o, 5⟩ = ⟨nm, G, o, 5⟩ := by simp [amt, arm, h0, h2]
        rw [ha]
        exact ⟨13, by omega, hnm.1, hnm.2, fin nm G o 5 13 (by omega) hw (fun b hb => by simp [arm, trim, isZ_w, isO_w, same_w, h0, h2]), (show 1 ≤ 5 by omega)⟩
      | true =>
        have ha : amt 13 ⟨nm, G, o, 5⟩ = ⟨⟨#[116, 114, 97, 110, 115, 108, 97, 116, 101, 90]⟩, G, (o + 4), 1⟩ := by simp [amt, arm, h0, h2]
        rw [ha]
        exact ⟨14, by omega, lo9, (show (⟨#[116, 114, 97, 110, 115, 108, 97, 116, 101, 90]⟩ : ByteArray).size ≤ 12 by decide), fin ⟨#[116, 114, 97, 110, 115, 108, 97, 116, 101, 90]⟩ G (o + 4) 1 14 (by omega) hw (fun b hb => by simp [arm, trim, isZ_w, isO_w, same_w]), (show 1 ≤ 1 by omega)⟩
    · have ha : amt 13 ⟨nm, G, o, n⟩ = ⟨nm, G, o, n⟩ := by simp [amt, arm, h5]
      rw [ha]
      exact ⟨13, by omega, hnm.1, hnm.2, fin nm G o n 13 (by omega) hw (fun b hb => by simp [arm, trim, isZ_w, isO_w, same_w, h5]), (show 1 ≤ n by omega)⟩
  · have ha : amt 14 ⟨nm, G, o, n⟩ = ⟨nm, G, o, n⟩ := by simp [amt, arm]
    rw [ha]
    exact ⟨14, by omega, hnm.1, hnm.2, fin nm G o n 14 (by omega) hw (fun b hb => by simp [arm, trim, isZ_w, isO_w, same_w]), (show 1 ≤ n by omega)⟩
  · by_cases h5 : n = 5
    · subst h5
      cases h0 : isO (G o) with
      | false =>
        have ha : amt 15 ⟨nm, G, o, 5⟩ = ⟨nm, G, o, 5⟩ := by simp [amt, arm, h0]
        rw [ha]
        exact ⟨15, by omega, hnm.1, hnm.2, fin nm G o 5 15 (by omega) hw (fun b hb => by simp [arm, trim, isZ_w, isO_w, same_w, h0]), (show 1 ≤ 5 by omega)⟩
      | true =>
      cases h2 : isO (G (o + 2)) with
      | false =>
        have ha : amt 15 ⟨nm, G, o, 5⟩ = ⟨nm, G, o, 5⟩ := by simp [amt, arm, h0, h2]
        rw [ha]
        exact ⟨15, by omega, hnm.1, hnm.2, fin nm G o 5 15 (by omega) hw (fun b hb => by simp [arm, trim, isZ_w, isO_w, same_w, h0, h2]), (show 1 ≤ 5 by omega)⟩
      | true =>
        have ha : amt 15 ⟨nm, G, o, 5⟩ = ⟨⟨#[115, 99, 97, 108, 101, 90]⟩, G, (o + 4), 1⟩ := by simp [amt, arm, h0, h2]
        rw [ha]
        exact ⟨16, by omega, lo7, (show (⟨#[115, 99, 97, 108, 101, 90]⟩ : ByteArray).size ≤ 12 by decide), fin ⟨#[115, 99, 97, 108, 101, 90]⟩ G (o + 4) 1 16 (by omega) hw (fun b hb => by simp [arm, trim, isZ_w, isO_w, same_w]), (show 1 ≤ 1 by omega)⟩
    · have ha : amt 15 ⟨nm, G, o, n⟩ = ⟨nm, G, o, n⟩ := by simp [amt, arm, h5]
      rw [ha]
      exact ⟨15, by omega, hnm.1, hnm.2, fin nm G o n 15 (by omega) hw (fun b hb => by simp [arm, trim, isZ_w, isO_w, same_w, h5]), (show 1 ≤ n by omega)⟩
  · have ha : amt 16 ⟨nm, G, o, n⟩ = ⟨nm, G, o, n⟩ := by simp [amt, arm]
    rw [ha]
    exact ⟨16, by omega, hnm.1, hnm.2, fin nm G o n 16 (by omega) hw (fun b hb => by simp [arm, trim, isZ_w, isO_w, same_w]), (show 1 ≤ n by omega)⟩
  · by_cases h7 : n = 7
    · subst h7
      cases hp : (isO (G o) && isZ (G (o + 2)) && isZ (G (o + 4))) with
      | true =>
        have ha : amt 17 ⟨nm, G, o, 7⟩ = ⟨⟨#[114, 111, 116, 97, 116, 101, 88]⟩, G, (o + 6), 1⟩ := by simp [amt, arm, hp]
        rw [ha]
        exact ⟨18, by omega, lo10, (show (⟨#[114, 111, 116, 97, 116, 101, 88]⟩ : ByteArray).size ≤ 12 by decide), fin ⟨#[114, 111, 116, 97, 116, 101, 88]⟩ G (o + 6) 1 18 (by omega) hw (fun b hb => by simp [arm, trim, isZ_w, isO_w, same_w]), (show 1 ≤ 1 by omega)⟩
      | false =>
      cases hq : (isZ (G o) && isO (G (o + 2)) && isZ (G (o + 4))) with
      | true =>
        have ha : amt 17 ⟨nm, G, o, 7⟩ = ⟨⟨#[114, 111, 116, 97, 116, 101, 89]⟩, G, (o + 6), 1⟩ := by simp [amt, arm, hp, hq]
        rw [ha]
        exact ⟨19, by omega, lo11, (show (⟨#[114, 111, 116, 97, 116, 101, 89]⟩ : ByteArray).size ≤ 12 by decide), fin ⟨#[114, 111, 116, 97, 116, 101, 89]⟩ G (o + 6) 1 19 (by omega) hw (fun b hb => by simp [arm, trim, isZ_w, isO_w, same_w]), (show 1 ≤ 1 by omega)⟩
      | false =>
        have ha : amt 17 ⟨nm, G, o, 7⟩ = ⟨nm, G, o, 7⟩ := by simp [amt, arm, hp, hq]
        rw [ha]
        exact ⟨17, by omega, hnm.1, hnm.2, fin nm G o 7 17 (by omega) hw (fun b hb => by simp [arm, trim, isZ_w, isO_w, same_w, hp, hq]), (show 1 ≤ 7 by omega)⟩
    · have ha : amt 17 ⟨nm, G, o, n⟩ = ⟨nm, G, o, n⟩ := by simp [amt, arm, h7]
      rw [ha]
      exact ⟨17, by omega, hnm.1, hnm.2, fin nm G o n 17 (by omega) hw (fun b hb => by simp [arm, trim, isZ_w, isO_w, same_w, h7]), (show 1 ≤ n by omega)⟩
  · have ha : amt 18 ⟨nm, G, o, n⟩ = ⟨nm, G, o, n⟩ := by simp [amt, arm]
    rw [ha]
    exact ⟨18, by omega, hnm.1, hnm.2, fin nm G o n 18 (by omega) hw (fun b hb => by simp [arm, trim, isZ_w, isO_w, same_w]), (show 1 ≤ n by omega)⟩
  · have ha : amt 19 ⟨nm, G, o, n⟩ = ⟨nm, G, o, n⟩ := by simp [amt, arm]
    rw [ha]
    exact ⟨19, by omega, hnm.1, hnm.2, fin nm G o n 19 (by omega) hw (fun b hb => by simp [arm, trim, isZ_w, isO_w, same_w]), (show 1 ≤ n by omega)⟩
  · have ha : amt 20 ⟨nm, G, o, n⟩ = ⟨nm, G, o, n⟩ := by simp [amt, arm]
    rw [ha]
    exact ⟨20, by omega, hnm.1, hnm.2, fin nm G o n 20 (by omega) hw (fun b hb => by simp [arm, trim, isZ_w, isO_w, same_w]), (show 1 ≤ n by omega)⟩
  · have ha : amt 21 ⟨nm, G, o, n⟩ = ⟨nm, G, o, n⟩ := by simp [amt, arm]
    rw [ha]
    exact ⟨21, by omega, hnm.1, hnm.2, fin nm G o n 21 (by omega) hw (fun b hb => by simp [arm, trim, isZ_w, isO_w, same_w]), (show 1 ≤ n by omega)⟩
end Go.Proofs.YtoblbakaemglbaaFmt
