/- FnFlattenMatchesStreamModel: buffers of bytes; zzAppendInt. -/
import Derived.Test.YtjigljpodkfchadFls
import Derived.Test.YtjigljpodkfchadFlu
import Derived.Lib.AppendStr
set_option linter.unusedVariables false
set_option linter.unusedSimpArgs false
namespace Go.Proofs.Ytjigljpodkfchad
open Go.RowKit
set_option maxRecDepth 100000
set_option maxHeartbeats 40000000
theorem info5 : (Try.prog.info? 5).map (fun i => (i.zero.map (·.cells), i.size, i.bytes)) = some (some #[.int .u8 0], 1, 1) := by kernel_rfl
abbrev u8s (l : List Int) : List Value := l.map (Value.int .u8)
theorem u8s_one (l : List Int) : ∀ u ∈ u8s l, u.oneCell' = true := fun u hu => by
  obtain ⟨n, -, rfl⟩ := List.mem_map.1 hu; rfl
/-- a buffer of bytes of a call's own -/
def Bu (v : Value) (l : List Int) (W0 w : World) : Prop := w.ownsRow W0.heap.size 5 1 v l.length (u8s l) ∧ Below W0.heap.size W0 w
theorem Bu.nil (w : World) : Bu (.slice none 0 0) [] w w := ⟨World.ownsRow_nil _ _ _ _, Below.refl _ _⟩
theorem Bu.after {v : Value} {l : List Int} {W0 w w' : World} (h : Bu v l W0 w) (hb : Below w.heap.size w w') : Bu v l W0 w' := ⟨own_below h.1 hb, h.2.trans (hb.mono h.2.size)⟩
theorem Bu.grow {v v' : Value} {l l' : List Int} {W0 w w' : World} (h : Bu v l W0 w) (ho : w'.ownsRow W0.heap.size 5 1 v' l'.length (u8s l')) (hk : Kp (Ob v) w w') : Bu v' l' W0 w' := ⟨ho, h.2.trans (hk.below h.2.size (fun b q => (h.1.lt b q).1))⟩
theorem Bu.head {v : Value} {l : List Int} {W0 w : World} (h : Bu v l W0 w) : ∃ a c, v = .slice a l.length c := own_head h.1
theorem appStr {w : World} {ops : Array Oper} {rest : List Oper} {o : Oper} {a : Act} {Q : Exit → Act → World → Prop} (sl x : Operand) (B : Nat) (v : Value) (n : Nat) (xs : List Value) (s : ByteArray)
    (ho : o.op = .call { callee := .builtin .append, args := #[sl, x], argTypes := #[147, 9] }) (hgd : o.guard = none) (hs : a.eval sl = v) (hx : a.eval x = .string s) (hown : w.ownsRow B 5 1 v n xs) (h63 : n + s.size ≤ 140737488355328) (hbase : B ≤ w.heap.size)
    (h : ∀ v' w', w'.ownsRow B 5 1 v' (n + s.size) (xs ++ u8s (byt s)) → Kp (Ob v) w w' → wpList Try.prog ops Q rest (a.put o.dst v') w') : wpList Try.prog ops Q (o :: rest) a w := by
  have e : Lib.strCells s = u8s (byt s) := by simp [Lib.strCells, byt, u8s]
  obtain ⟨i, hi⟩ : ∃ i, Try.prog.info? 5 = some i := by
    cases hi : Try.prog.info? 5 with
    | none => have := info5; rw [hi] at this; cases this
    | some i => exact ⟨i, rfl⟩
  have hinfo := info5
  rw [hi] at hinfo
  simp only [Option.map_some, Option.some.injEq, Prod.mk.injEq] at hinfo
  obtain ⟨g1, g2, g3⟩ := hinfo
  have hz : i.zero = some (.int .u8 0) := by
    have : (Try.prog.info? 5).bind (·.zero) = some (.int .u8 0) := by kernel_rfl
    rw [hi] at this
    exact this
  refine Lib.wpList_append_own_string (P := Try.prog) w hgd sl x 147 9 ho B 5 i Try.underlying147 Try.underlying9 hi hz g2 g3 v n xs hs hown s hx (by unfold maxLen; omega) h63 hbase (fun v' w' h2 h3 h4 => h v' w' (by rw [← e]; exact h2) (Kp.grown h3))
theorem und159 : Try.prog.underlying 159 = some (.array (Try.prog.arrayLen 159) (Try.prog.elem 159)) := by kernel_rfl
theorem sl159 (D i : Nat) (hi : i < 20) (W : World) : (Instr.sliceAt 159 (.pointer (some ⟨D, 0, none⟩)) (some (.int .i64 (i : Int))) none none).run Try.prog W = .ok (.slice (some ⟨D, i, none⟩) (20 - i) (20 - i)) W := by
  have e1 : Try.prog.arrayLen 159 = 20 := by kernel_rfl
  have h : (sizeOf (Try.prog.elem 159)).run Try.prog W = .ok 1 W := by
    have e : Try.prog.elem 159 = 5 := by kernel_rfl
    have h5 : (sizeOf 5).run Try.prog W = .ok 1 W := by kernel_rfl
    rw [e]; exact h5
  rw [run_sliceAt_array_l W 159 _ und159 .i64 _ (by omega) (by rw [e1]; omega), h, e1]
  have : ¬ 20 = i := by omega
  simp [Result.andThen, slicedAt, addN, this]
theorem byt_len (s : ByteArray) : (byt s).length = s.size := by
  show (s.data.toList.map _).length = s.data.size
  rw [List.length_map, Array.length_toList]
theorem bs_size (l : List Int) : (bs l).size = l.length := by rw [← byt_len, byt, List.length_map, bs_data, List.length_map]
theorem decF_len (f n : Nat) : (decF f n).length ≤ f := by
  induction f generalizing n with
  | zero => exact Nat.le_refl _
  | succ f ih => unfold decF; split; simp; have := ih (n / 10); simp; omega
def DecP (v : Value) (B : Nat) (l : List Int) (n : Nat) (w : World) (e : Ending) (w' : World) : Prop := ∃ v', e = .returned v' ∧ w'.ownsRow B 5 1 v' (l ++ dec n).length (u8s (l ++ dec n)) ∧ Kp (Ob v) w w'
theorem dec41_c (v : Value) (B : Nat) (l : List Int) (n : Nat) (hn : n ≤ 1048576) (hl : l.length ≤ 30000000) (w : World) (hB : B ≤ w.heap.size) (h : w.ownsRow B 5 1 v l.length (u8s l)) : Calls Try.prog 41 #[v, .int .i64 n] w (DecP v B l n w) := by
  obtain ⟨a, c, rfl⟩ := own_head h
  obtain ⟨ll, hll⟩ : ∃ y, l.length = y := ⟨_, rfl⟩
  rw [hll] at h hl ⊢
  have q : ((n : Int) < 0) = False := by simp
  replace h := Lib.hid h
  replace hll := Lib.hid hll
  go_enter Try.func41, Try.ntmps41
  go_upto_region 5 with fail
  refine wp_gen (fun W hW => ?_)
  have hB' : Hid (Below w.heap.size w W) := Lib.hid (by rw [hW]; exact ba _ _)
  have hR : Hid (Room W w.heap.size 20) := Lib.hid (by rw [hW]; exact Room.newN _ _ rfl _)
  clear hW
  obtain ⟨D, hD⟩ : ∃ y, w.heap.size = y := ⟨_, rfl⟩
  rw [hD] at hR ⊢
  replace hD := Lib.hid hD
  clear q
  go_loopw [1, 6] (fun nv iv wr => ∃ (k r nr : Nat) (tl : List Int), nv = .int .i64 nr ∧ iv = .int .i64 k ∧ k + r = 20 ∧ r ≤ 6 ∧ dec n = decF k nr ++ tl ∧ tl.length = r ∧ nr < 10 ^ (7 - r) ∧ (∀ (j : Nat) x, tl[j]? = some x → wr.cell? ⟨D, k + j, none⟩ = some (.int .u8 x)) ∧ Room wr D 20 ∧ Kp (fun b => b = D) W wr) (fun _ iv _ => (intOf iv).toNat)
  case atStart => exact ⟨20, 0, n, [], rfl, rfl, rfl, by omega, by simp [dec], rfl, by omega, fun j x hj => by simp at hj, hR.out, Kp.refl _⟩
  case round =>
    clear hR
    obtain ⟨k, r, nr, tl, rfl, rfl, hkr, hr6, hdec, htl, hnr, hcs, hR, hK⟩ := hrel
    obtain ⟨Wr, rfl⟩ : ∃ y, y = wr := ⟨_, rfl⟩
    replace hK := Lib.hid hK; replace hcs := Lib.hid hcs; replace htl := Lib.hid htl; replace hdec := Lib.hid hdec
    obtain ⟨i, rfl⟩ : ∃ i, k = i + 1 := ⟨k - 1, by omega⟩
    obtain ⟨_, y0, f0⟩ := hR i (by omega)
    replace hR := Lib.hid hR
    have hlim : nr < 10000000 := Nat.lt_of_lt_of_le hnr (Nat.pow_le_pow_right (by omega) (show 7 - r ≤ 7 by omega))
    have i0 : (0 : Int) ≤ i := by omega
    have i1 : (i : Int) < 20 := by omega
    replace hnr := Lib.hid hnr; replace hkr := Lib.hid hkr
    have hset : ∀ x : Int, Kp (fun b => b = D) Wr (Wr.setCell ⟨D, i, none⟩ (.int .u8 x)) := fun x => (Kp.refl _).set _ _ (.inl rfl)
    have hnew : Hid (∀ (j : Nat) x, ((48 + (nr : Int) % 10) :: tl)[j]? = some x → (Wr.setCell ⟨D, i, none⟩ (.int .u8 (48 + (nr : Int) % 10))).cell? ⟨D, i + j, none⟩ = some (.int .u8 x)) := Lib.hid (fun j x hj => by
      cases j with
      | zero => injection hj with hj; subst hj; exact cs y0
      | succ j =>
        rw [co (by intro q; injection q; omega)]
        have := hcs.out j x (by simpa using hj)
        rw [show i + 1 + j = i + (j + 1) by omega] at this
        exact this)
    have hKn := Lib.hid (hK.out.trans (hset (48 + (nr : Int) % 10)))
    have hRn := Lib.hid (hR.out.setA ⟨D, i, none⟩ (.int .u8 (48 + (nr : Int) % 10)))
    clear hset
    by_cases h10 : nr / 10 = 0
    · have hd : Hid (dec n = (48 + (nr : Int) % 10) :: tl) := Lib.hid (by
        rw [hdec.out, decF, if_pos (by omega), show ((nr : Int) % 10) = nr by omega]; rfl)
      have hsl := sl159 D i (by omega)
      have hb : Hid (Below w.heap.size w (Wr.setCell ⟨D, i, none⟩ (.int .u8 (48 + (nr : Int) % 10)))) := Lib.hid (hB'.out.trans (hKn.out.below hB'.out.size (fun b e => by have := hD.out; omega)))
      have hO := Lib.hid (own_below h.out hb.out)
      have hlen : Hid ((20 - i) = (dec n).length) := Lib.hid (by rw [hd.out, List.length_cons, htl.out]; have := hkr.out; omega)
      have hQ : ∀ (j : Nat) (u : Value), (u8s (dec n))[j]? = some u → (Wr.setCell ⟨D, i, none⟩ (.int .u8 (48 + (nr : Int) % 10))).cell? ⟨D, i + j, none⟩ = some u := fun j u hj => by
        rw [List.getElem?_map, hd.out] at hj
        cases hx : ((48 + (nr : Int) % 10) :: tl)[j]? with
        | none => rw [hx] at hj; cases hj
        | some x => rw [hx] at hj; injection hj with hj; rw [← hj]; exact hnew.out j x hx
      replace hQ := Lib.hid hQ
      have hB1 := Lib.hid (Nat.le_trans hB hb.out.size)
      have hL : (u8s (dec n)).length = (20 - i) * 1 := by rw [List.length_map, hlen.out, Nat.mul_one]
      replace hL := Lib.hid hL
      go_wp2_with (at_builtin; go_loud (refine appQ (.tmp 25) (.tmp 27) 147 5 B 1 1 #[.int .u8 0] _ ll _ D i (20 - i) (20 - i) _ rfl rfl rfl rfl Try.underlying147 info5 rfl (by omega) hO.out hL.out hQ.out (u8s_one _) (by omega) (by omega) hB1.out ?_); intro v8 w8 hO8 hkp hnw; replace hO8 := Lib.hid hO8; replace hkp := Lib.hid hkp; replace hnw := Lib.hid hnw)
      obtain ⟨a8, c8, rfl⟩ := own_head hO8.out
      refine bodyPost_ret (v := .slice a8 (ll + (20 - i)) c8) (by simp [results, Try.results41, go_sem]) rfl ⟨_, rfl, ?_, ((Kp.of hb.out).trans hkp.out)⟩
      have := hO8.out
      rw [hlen.out] at this ⊢
      rw [List.length_append, hll.out]
      simpa [u8s] using this
    · have hr5 : r ≤ 5 := by
        rcases Nat.lt_or_ge r 6 with e | e
        · omega
        · exfalso
          have h1 := hnr.out
          rw [show 7 - r = 1 by omega] at h1
          omega
      have q : ((nr : Int) / 10 == 0) = false := by simp; omega
      have q2 : ((i : Int) == 0) = false := by simp; have := hkr.out; omega
      have hnr2 : Hid (nr / 10 < 10 ^ (7 - (r + 1))) := Lib.hid (by
        have h1 := hnr.out
        rw [show 7 - r = (7 - (r + 1)) + 1 by omega, Nat.pow_succ] at h1
        omega)
      have hd : Hid (dec n = decF i (nr / 10) ++ ((48 + (nr : Int) % 10) :: tl)) := Lib.hid (by
        rw [hdec.out, decF, if_neg (by omega)]
        simp)
      go_wp2
      go_roundw
      case rel => exact ⟨i, r + 1, nr / 10, _, by simp, rfl, by have := hkr.out; omega, by omega, hd.out, by simp [htl.out], hnr2.out, hnew.out, hRn.out, hKn.out⟩
      case measure => simp [intOf]
end Go.Proofs.Ytjigljpodkfchad
