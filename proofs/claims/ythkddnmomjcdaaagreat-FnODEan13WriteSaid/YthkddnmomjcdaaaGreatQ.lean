import Derived.Test.YthkddnmomjcdaaaGreatP
namespace Go.Proofs.YthkddnmomjcdaaaGreat.B
open Go.RowKit Go.Proofs.YthkddnmomjcdaaaGreatW.PrintWords Go.Proofs.YthkddnmomjcdaaaGreatW.PrintLast Go.Proofs.YthkddnmomjcdaaaGreatW.PrintMore
set_option linter.unusedVariables false
set_option linter.unusedSimpArgs false

/-! ### The reference's row -/
/-- So many pixels of a row are painted. -/
def RowInv (code : List Bool) (left many : Int) (OUT : Nat) (xs : List Bool) (n : Int) : Prop :=
  xs.length = OUT ∧ ∀ y : Int, 0 ≤ y → y < OUT → rdOf false xs y = (if left ≤ y ∧ y < left + n then rdOf false code ((y - left) / many) else false)
theorem rdOf_set {α : Type} (d : α) (xs : List α) (i j : Int) (v : α) (h0 : 0 ≤ i) (h1 : 0 ≤ j) (h2 : i < xs.length) : rdOf d (xs.set i.toNat v) j = if j = i then v else rdOf d xs j := by
  rw [rdOf, rdOf, List.getD_eq_getElem?_getD, List.getD_eq_getElem?_getD, List.getElem?_set]
  by_cases e : j = i
  · subst e
    simp [show j.toNat < xs.length by omega]
  · rw [if_neg e, if_neg (by omega)]
theorem rowInv_step (code : List Bool) (left many : Int) (OUT : Nat) (xs : List Bool) (n : Int) (h : RowInv code left many OUT xs n) (h0 : 0 ≤ left) (hn : 0 ≤ n) (hl : left + n < OUT) :
    RowInv code left many OUT (xs.set (left + n).toNat (rdOf false code (n / many))) (n + 1) := by
  refine ⟨by rw [List.length_set]; exact h.1, fun y hy hy2 => ?_⟩
  rw [rdOf_set false xs (left + n) y _ (by omega) hy (by rw [h.1]; omega)]
  by_cases e : y = left + n
  · rw [if_pos e, if_pos (by omega), e, show left + n - left = n by omega]
  · rw [if_neg e, h.2 y hy hy2]
    by_cases e2 : left ≤ y ∧ y < left + n
    · rw [if_pos e2, if_pos (by omega)]
    · rw [if_neg e2, if_neg (by omega)]
theorem rowInv_list (code : List Bool) (left many : Int) (OUT : Nat) (xs : List Bool) (h : RowInv code left many OUT xs (code.length * many)) : xs = rowList code left many OUT := by
  apply List.ext_getElem?
  intro i
  by_cases hi : i < OUT
  · have h1 := h.2 i (by omega) (by omega)
    rw [List.getElem?_eq_getElem (by rw [h.1]; exact hi), rowList, List.getElem?_map, List.getElem?_range hi]
    have h2 : rdOf false xs (i : Int) = xs[i]'(by rw [h.1]; exact hi) := by simp [rdOf, List.getElem?_eq_getElem (show i < xs.length by rw [h.1]; exact hi)]
    rw [← h2, h1]
    rfl
  · rw [List.getElem?_eq_none (by rw [h.1]; omega), List.getElem?_eq_none (by simp [rowList]; omega)]

theorem odRow_run (code : List Bool) (left many : Int) (OUT : Nat) (h0 : 0 ≤ left) (h1 : 1 ≤ many) (h2 : left + code.length * many ≤ OUT) (hO : OUT ≤ 1000000) (hm : many ≤ 1000000) (hc : code.length ≤ 1000000) :
    ∀ (d i : Nat) (xs : List Bool), (code.length : Int) - i = d → RowInv code left many OUT xs (i * many) → Ev (fun k => F.spec_ODRow.l0 k code xs many left i) (rowList code left many OUT) := by
  intro d
  induction d with
  | zero =>
    intro i xs hd hx
    refine Ev.step (f := fun _ => some xs) (fun k => ?_) ?_
    · rw [F.spec_ODRow.l0, if_neg (by omega)]
    · have : (i : Int) = code.length := by omega
      rw [this] at hx
      rw [← rowInv_list code left many OUT xs hx]
      exact Ev.now xs
  | succ d ih =>
    intro i xs hd hx
    have e1 : ((i + 1 : Nat) : Int) * many = i * many + many := by push_cast; rw [Int.add_mul, Int.one_mul]
    have hle : (i : Int) * many + many ≤ code.length * many := by
      rw [← e1]; exact Int.mul_le_mul_of_nonneg_right (by omega) (by omega)
    have hnn : 0 ≤ (i : Int) * many := Int.mul_nonneg (by omega) (by omega)
    refine Ev.step (f := fun k => F.spec_ODRow.l1 k code xs many left i 0) (fun k => ?_) ?_
    · rw [F.spec_ODRow.l0, if_pos (by omega)]
    · suffices H : ∀ (q : Nat) (k : Int) (zs : List Bool), 0 ≤ k → many - k = q → RowInv code left many OUT zs (i * many + k) → Ev (fun f => F.spec_ODRow.l1 f code zs many left i k) (rowList code left many OUT) from
        H many.toNat 0 xs (by omega) (by omega) (by simpa using hx)
      intro q
      induction q with
      | zero =>
        intro k zs hk hq hz
        refine Ev.step (f := fun f => F.spec_ODRow.l0 f code zs many left ((i + 1 : Nat) : Int)) (fun f => ?_) ?_
        · rw [F.spec_ODRow.l1, if_neg (by omega), show wrap64 ((i : Int) + 1) = ((i + 1 : Nat) : Int) by unfold wrap64; omega]
        · exact ih (i + 1) zs (by omega) (by rw [e1]; have : k = many := by omega
                                             rwa [this] at hz)
      | succ q ihq =>
        intro k zs hk hq hz
        generalize hp : (i : Int) * many = p at *
        have hdiv : (p + k) / many = i := by
          rw [← hp, Int.add_comm, Int.add_mul_ediv_right _ _ (by omega), Int.ediv_eq_zero_of_lt hk (by omega)]
          omega
        refine Ev.step (f := fun f => F.spec_ODRow.l1 f code (zs.set (left + (p + k)).toNat (rdOf false code ((p + k) / many))) many left i (k + 1)) (fun f => ?_) ?_
        · have w1 : wrap64 ((i : Int) * many) = p := by rw [hp]; unfold wrap64; omega
          have w2 : wrap64 (left + p) = left + p := by unfold wrap64; omega
          have w3 : wrap64 (left + p + k) = left + (p + k) := by unfold wrap64; omega
          rw [F.spec_ODRow.l1, if_pos (by omega), if_pos (by omega), if_pos (by omega), w1, w2, w3, if_pos (by omega), if_pos (by rw [hz.1]; omega), show wrap64 (k + 1) = k + 1 by unfold wrap64; omega, hdiv]
        · exact ihq (k + 1) _ (by omega) (by omega) (by
            have := rowInv_step code left many OUT zs (p + k) hz h0 (by omega) (by omega)
            rwa [show p + k + 1 = p + (k + 1) by omega] at this)

theorem odRow (code : List Bool) (wd mg full out many left : Int) (OUT : Nat) (q0 : 0 < (code.length : Int) + mg) (hm0 : 0 ≤ mg) (hm1 : mg ≤ 1000) (hw0 : 0 ≤ wd) (hw1 : wd ≤ 100000) (hlc : code.length ≤ 100000)
    (hfull : (code.length : Int) + mg = full) (hout : (if full < wd then wd else full) = out) (hmany : out / full = many) (hleft : (out - code.length * many) / 2 = left) (hOUT : out = (OUT : Int)) :
    Ev (fun k => F.spec_ODRow.f k code wd mg) (rowList code left many OUT) := by
  have hb : 0 < full ∧ full ≤ out ∧ out ≤ 200000 := by split at hout <;> omega
  obtain ⟨hb0, hb1, hb2⟩ := hb
  have hmx : mx wd full = out := by unfold mx; rw [← hout]; split <;> split <;> omega
  have hmy : 1 ≤ many := by rw [← hmany]; exact (Int.le_ediv_iff_mul_le (by omega)).2 (by omega)
  have hle : many ≤ 200000 := by rw [← hmany]; exact Int.le_trans (Int.ediv_le_self _ (by omega)) (by omega)
  have hlm : (code.length : Int) * many ≤ out := by
    rw [← hmany]
    have h1 := Int.mul_ediv_self_le (x := out) (k := full) (by omega)
    have h4 := Int.mul_le_mul_of_nonneg_right (show (code.length : Int) ≤ full by omega) (show 0 ≤ out / full by omega)
    omega
  have hnn : 0 ≤ (code.length : Int) * many := Int.mul_nonneg (by omega) (by omega)
  generalize hp : (code.length : Int) * many = p at *
  have hmain := odRow_run code left many OUT (by omega) hmy (by omega) (by omega) (by omega) (by omega) code.length 0 (List.replicate OUT false) (by omega) ⟨by simp, fun y hy hy2 => by
    rw [if_neg (by rw [show ((0 : Nat) : Int) * many = 0 by simp]; omega), rdOf, List.getD_eq_getElem?_getD, List.getElem?_replicate]
    split <;> rfl⟩
  refine Ev.congr (fun k => ?_) hmain
  have w1 : wrap64 ((code.length : Int) + mg) = full := by rw [hfull]; unfold wrap64; omega
  have t1 : Int.tdiv out full = many := by rw [Int.tdiv_eq_ediv_of_nonneg (by omega)]; exact hmany
  have w2 : wrap64 many = many := by unfold wrap64; omega
  have w3 : wrap64 ((code.length : Int) * many) = p := by rw [hp]; unfold wrap64; omega
  have w4 : wrap64 (out - p) = out - p := by unfold wrap64; omega
  have t2 : Int.tdiv (out - p) 2 = left := by rw [Int.tdiv_eq_ediv_of_nonneg (by omega)]; exact hleft
  have w5 : wrap64 left = left := by unfold wrap64; omega
  unfold F.spec_ODRow.f
  rw [w1, hmx, if_pos (by omega), if_pos (by omega), if_neg (by omega), t1, w2, w3, w4, t2, w5]
  rw [show out.toNat = OUT by omega]
  rfl

theorem sameBits (xs : List Bool) (hl : xs.length ≤ 1000000) : Ev (fun k => F.spec_BISameBits.f k xs xs) true := by
  have H : ∀ (d i : Nat), (xs.length : Int) - i = d → Ev (fun k => F.spec_BISameBits.l0 k xs xs i) true := by
    intro d
    induction d with
    | zero =>
      intro i hd
      refine Ev.step (f := fun _ => some true) (fun k => ?_) (Ev.now true)
      rw [F.spec_BISameBits.l0, if_neg (by omega)]
    | succ d ih =>
      intro i hd
      refine Ev.step (fun k => ?_) (ih (i + 1) (by omega))
      rw [F.spec_BISameBits.l0, if_pos (by omega), if_pos (by omega), if_pos (by omega), if_neg (by simp), show wrap64 ((i : Int) + 1) = ((i + 1 : Nat) : Int) by unfold wrap64; omega]
  refine Ev.congr (fun k => ?_) (H xs.length 0 (by omega))
  unfold F.spec_BISameBits.f
  rw [if_pos rfl]
  rfl
end Go.Proofs.YthkddnmomjcdaaaGreat.B
