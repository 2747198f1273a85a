import Derived.Test.YthkddnmomjcdaaaGreatD
import Derived.Test.YthkddnmomjcdaaaGreatF16
import Derived.Test.YthkddnmomjcdaaaGreatF17
import Derived.Laws.BitsAllLaws
namespace Go.Proofs.YthkddnmomjcdaaaGreat.B
open Go.RowKit Go.Proofs.YthkddnmomjcdaaaGreatW.PrintWords Go.Proofs.YthkddnmomjcdaaaGreatW.PrintLast Go.Proofs.YthkddnmomjcdaaaGreatW.PrintMore
set_option linter.unusedVariables false
set_option linter.unusedSimpArgs false

/-! ### Bits of words -/
def W32 (xs : List Int) : Prop := ∀ v ∈ xs, 0 ≤ v ∧ v < 4294967296
theorem rd_mem (xs : List Int) (i : Int) (h : i.toNat < xs.length) : rd xs i ∈ xs := by
  rw [rd, List.getD_eq_getElem?_getD, List.getElem?_eq_getElem h]
  exact List.getElem_mem h
theorem pow_lt (k : Int) (h0 : 0 ≤ k) (h : k < 32) : 2 ^ k.toNat < 4294967296 := by
  have : 2 ^ k.toNat < 2 ^ 32 := Nat.pow_lt_pow_right (by omega) (by omega)
  simpa using this
theorem shl_eq (k : Int) (h0 : 0 ≤ k) (h : k < 32) : (2 : Int) ^ k.toNat % 4294967296 = ((2 ^ k.toNat : Nat) : Int) := by
  have := pow_lt k h0 h
  rw [show (2 : Int) ^ k.toNat = ((2 ^ k.toNat : Nat) : Int) by simp]
  generalize 2 ^ k.toNat = q at *
  omega
theorem and_pow (a k : Nat) : (((a &&& 2 ^ k : Nat) : Int) != 0) = a.testBit k := by
  cases h : a.testBit k with
  | true =>
    rw [bne_iff_ne]
    intro e
    have e0 : a &&& 2 ^ k = 0 := by omega
    have h1 : (a &&& 2 ^ k).testBit k = true := by rw [Nat.testBit_and, h, Nat.testBit_two_pow]; simp
    rw [e0] at h1
    simp at h1
  | false =>
    have e0 : a &&& 2 ^ k = 0 := by
      apply Nat.eq_of_testBit_eq
      intro i
      rw [Nat.testBit_and, Nat.testBit_two_pow, Nat.zero_testBit]
      by_cases e : k = i
      · subst e; simp [h]
      · simp [e]
    rw [e0]
    rfl
theorem bitAt_eq (xs : List Int) (hw : W32 xs) (x : Int) (h0 : 0 ≤ x) (h1 : x / 32 < xs.length) : bitAt xs x = (rd xs (x / 32)).toNat.testBit (x % 32).toNat := by
  have hm := hw _ (rd_mem xs (x / 32) (by omega))
  have hp := pow_lt (x % 32) (by omega) (by omega)
  rw [bitAt, shl_eq _ (by omega) (by omega), u32_and _ _ hm.1 hm.2 (Int.natCast_nonneg _) (Int.ofNat_lt.2 hp), Int.toNat_natCast, and_pow]
theorem orBit_w (xs : List Int) (hw : W32 xs) (o x : Int) (h0 : 0 ≤ o) (h1 : 0 ≤ x) (h2 : o + x / 32 < xs.length) : W32 (orBit xs o x) := by
  intro v hv
  rcases List.mem_or_eq_of_mem_set hv with h | h
  · exact hw v h
  · subst h
    have hm := hw _ (rd_mem xs (o + x / 32) (by omega))
    have hp := pow_lt (x % 32) (by omega) (by omega)
    rw [shl_eq _ (by omega) (by omega), u32_or _ _ hm.1 hm.2 (Int.natCast_nonneg _) (Int.ofNat_lt.2 hp), Int.toNat_natCast]
    generalize 2 ^ (x % 32).toNat = q at *
    have : (rd xs (o + x / 32)).toNat ||| q < 2 ^ 32 := Nat.or_lt_two_pow (by omega) (by omega)
    omega
theorem rd_set (xs : List Int) (i j : Int) (v : Int) (h0 : 0 ≤ i) (h1 : 0 ≤ j) (h2 : i < xs.length) : rd (xs.set i.toNat v) j = if j = i then v else rd xs j := by
  rw [rd, rd, List.getD_eq_getElem?_getD, List.getD_eq_getElem?_getD, List.getElem?_set]
  by_cases e : j = i
  · subst e
    simp [show j.toNat < xs.length by omega]
  · rw [if_neg e, if_neg (by omega)]
theorem bitAt_orBit (xs : List Int) (hw : W32 xs) (o x y : Int) (h0 : 0 ≤ o) (h1 : 0 ≤ x) (h2 : o + x / 32 < xs.length) (h3 : 0 ≤ y) (h4 : y / 32 < xs.length) :
    bitAt (orBit xs o x) y = (bitAt xs y || decide (y = 32 * o + x)) := by
  rw [bitAt_eq _ (orBit_w xs hw o x h0 h1 h2) y h3 (by rw [orBit_length]; exact h4), bitAt_eq xs hw y h3 h4, orBit, rd_set _ _ _ _ (by omega) (by omega) h2]
  have hm := hw _ (rd_mem xs (o + x / 32) (by omega))
  have hp := pow_lt (x % 32) (by omega) (by omega)
  by_cases e : y / 32 = o + x / 32
  · rw [if_pos e, shl_eq _ (by omega) (by omega), u32_or _ _ hm.1 hm.2 (Int.natCast_nonneg _) (Int.ofNat_lt.2 hp), Int.toNat_natCast, Int.toNat_natCast, Nat.testBit_or, Nat.testBit_two_pow, e]
    congr 1
    rw [decide_eq_decide]
    omega
  · rw [if_neg e]
    have : ¬ y = 32 * o + x := by omega
    simp [this]
theorem sregX_w (xs : List Int) (hw : W32 xs) (o left : Int) (h0 : 0 ≤ o) (h1 : 0 ≤ left) : ∀ n : Nat, (n = 0 ∨ o + (left + n - 1) / 32 < xs.length) → W32 (sregX xs o left n)
  | 0, _ => hw
  | n + 1, h => by
    have ih := sregX_w xs hw o left h0 h1 n (by omega)
    exact orBit_w _ ih o (left + n) h0 (by omega) (by rw [sregX_length]; omega)
theorem bitAt_sregX (xs : List Int) (hw : W32 xs) (o left y : Int) (h0 : 0 ≤ o) (h1 : 0 ≤ left) (h3 : 0 ≤ y) (h4 : y / 32 < xs.length) : ∀ n : Nat, (n = 0 ∨ o + (left + n - 1) / 32 < xs.length) →
    bitAt (sregX xs o left n) y = (bitAt xs y || decide (32 * o + left ≤ y ∧ y < 32 * o + left + n))
  | 0, _ => by
    have : decide (32 * o + left ≤ y ∧ y < 32 * o + left + ((0 : Nat) : Int)) = false := decide_eq_false (by omega)
    rw [sregX, this, Bool.or_false]
  | n + 1, h => by
    rw [sregX, bitAt_orBit _ (sregX_w xs hw o left h0 h1 n (by omega)) _ _ _ h0 (by omega) (by rw [sregX_length]; omega) h3 (by rw [sregX_length]; omega), bitAt_sregX xs hw o left y h0 h1 h3 h4 n (by omega), Bool.or_assoc]
    congr 1
    rw [← Bool.decide_or, decide_eq_decide]
    omega

/-- What a painted row has at y. -/
def rowAt (code : List Bool) (left many : Int) (y : Int) : Bool := if left ≤ y ∧ y < left + code.length * many then rdOf false code ((y - left) / many) else false
theorem paint_bits (code : List Bool) (left many : Int) (xs : List Int) (hw : W32 xs) (h0 : 0 ≤ left) (h1 : 1 ≤ many) (R : Nat) (hR : xs.length = R) (hz : ∀ y : Int, 0 ≤ y → y / 32 < R → bitAt xs y = false) :
    ∀ n : Nat, (n = 0 ∨ (left + n * many - 1) / 32 < R) → W32 (paint code left many xs n) ∧ ∀ y : Int, 0 ≤ y → y / 32 < R →
      bitAt (paint code left many xs n) y = (if left ≤ y ∧ y < left + n * many then rdOf false code ((y - left) / many) else false)
  | 0, _ => ⟨hw, fun y hy hy2 => by rw [paint, hz y hy hy2, if_neg (by rw [show ((0 : Nat) : Int) * many = 0 by simp]; omega)]⟩
  | n + 1, h => by
    have e1 : ((n + 1 : Nat) : Int) * many = n * many + many := by push_cast; rw [Int.add_mul, Int.one_mul]
    rw [e1] at h
    have hnn : 0 ≤ (n : Int) * many := Int.mul_nonneg (by omega) (by omega)
    obtain ⟨ihw, ih⟩ := paint_bits code left many xs hw h0 h1 R hR hz n (by omega)
    have hl := paint_length code left many xs n
    obtain ⟨p, hp⟩ : ∃ p, (n : Int) * many = p := ⟨_, rfl⟩
    rw [hp] at hnn h ih e1
    have hdiv : ∀ y : Int, left + p ≤ y → y < left + p + many → (y - left) / many = n := by
      intro y ha hb
      have h2 : y - left = (y - left - p) + n * many := by omega
      rw [h2, Int.add_mul_ediv_right _ _ (by omega), Int.ediv_eq_zero_of_lt (by omega) (by omega)]
      omega
    rw [paint]
    split
    · rename_i hc
      have hs : sreg (paint code left many xs n) (xs.length : Int) (left + (n : Int) * many) many.toNat 0 1 = sregX (paint code left many xs n) 0 (left + p) many.toNat := by
        simp only [sreg, hp]
        simp
      rw [hs]
      refine ⟨sregX_w _ ihw 0 (left + p) (by omega) (by omega) _ (by rw [hl]; omega), fun y hy hy2 => ?_⟩
      rw [bitAt_sregX _ ihw 0 (left + p) y (by omega) (by omega) hy (by rw [hl]; omega) _ (by rw [hl]; omega), ih y hy hy2, e1]
      by_cases ha : left + p ≤ y ∧ y < left + p + many
      · rw [if_neg (by omega), if_pos (by omega), hdiv y ha.1 ha.2, hc]
        simp; omega
      · have hd : decide (32 * (0 : Int) + (left + p) ≤ y ∧ y < 32 * (0 : Int) + (left + p) + (many.toNat : Int)) = false := decide_eq_false (by omega)
        rw [hd, Bool.or_false]
        by_cases hb : left ≤ y ∧ y < left + p
        · rw [if_pos hb, if_pos (by omega)]
        · rw [if_neg hb, if_neg (by omega)]
    · rename_i hc
      refine ⟨ihw, fun y hy hy2 => ?_⟩
      rw [ih y hy hy2, e1]
      by_cases ha : left + p ≤ y ∧ y < left + p + many
      · rw [if_neg (by omega), if_pos (by omega), hdiv y ha.1 ha.2]
        simpa using hc
      · by_cases hb : left ≤ y ∧ y < left + p
        · rw [if_pos hb, if_pos (by omega)]
        · rw [if_neg hb, if_neg (by omega)]

theorem cpy_eq (xs ys : List Int) : ∀ n : Nat, n ≤ ys.length → n ≤ xs.length → cpy xs ys 0 n = xs.take n ++ ys.drop n
  | 0, _, _ => by simp [cpy]
  | n + 1, h1, h2 => by
    rw [cpy, cpy_eq xs ys n (by omega) (by omega)]
    have hl : (xs.take n).length = n := by simp; omega
    have e : rd xs (0 + (n : Int)) = xs[n] := by simp [rd, List.getElem?_eq_getElem (show n < xs.length by omega)]
    rw [List.set_append_right _ _ (by omega), hl, Nat.sub_self, List.drop_eq_getElem_cons (show n < ys.length by omega), List.set_cons_zero, e, List.take_succ_eq_append_getElem (show n < xs.length by omega), List.append_assoc]
    rfl

def rowList (code : List Bool) (left many : Int) (n : Nat) : List Bool := (List.range n).map fun (i : Nat) => rowAt code left many i
theorem row_eq (code : List Bool) (left many : Int) (R OUT : Nat) (h0 : 0 ≤ left) (h1 : 1 ≤ many) (h2 : left + code.length * many ≤ OUT) (hR : ((OUT : Int) + 31) / 32 = R) :
    unbits (cpy (paint code left many (List.replicate R 0) code.length) (List.replicate R 0) 0 R) OUT = rowList code left many OUT := by
  have hl := paint_length code left many (List.replicate R 0) code.length
  rw [List.length_replicate] at hl
  rw [cpy_eq _ _ R (by simp) (by omega), List.take_of_length_le (by omega), List.drop_of_length_le (by simp), List.append_nil]
  have hw0 : W32 (List.replicate R 0) := fun v hv => by rw [List.eq_of_mem_replicate hv]; omega
  have hz : ∀ y : Int, 0 ≤ y → y / 32 < R → bitAt (List.replicate R 0) y = false := fun y hy hy2 => by
    rw [bitAt_eq _ hw0 y hy (by simpa using hy2)]
    have hm := rd_mem (List.replicate R 0) (y / 32) (by simp; omega)
    rw [List.eq_of_mem_replicate hm]
    simp
  obtain ⟨_, hb⟩ := paint_bits code left many (List.replicate R 0) hw0 h0 h1 R (by simp) hz code.length (by omega)
  unfold unbits rowList
  refine List.map_congr_left fun i hi => ?_
  rw [List.mem_range] at hi
  rw [hb i (by omega) (by omega)]
  rfl
end Go.Proofs.YthkddnmomjcdaaaGreat.B
