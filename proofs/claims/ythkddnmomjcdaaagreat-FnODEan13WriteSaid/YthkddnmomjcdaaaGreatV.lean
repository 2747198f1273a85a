import Derived.Test.YthkddnmomjcdaaaGreatQ
import Derived.Test.YthkddnmomjcdaaaGreatU
namespace Go.Proofs.YthkddnmomjcdaaaGreat.B
open Go.RowKit Go.Proofs.YthkddnmomjcdaaaGreatW.PrintWords Go.Proofs.YthkddnmomjcdaaaGreatW.PrintLast Go.Proofs.YthkddnmomjcdaaaGreatW.PrintMore
set_option linter.unusedVariables false
set_option linter.unusedSimpArgs false

theorem loop_eq (bs : ByteArray) (i : Nat) (r : List UInt8) : ByteArray.toList.loop bs i r = r.reverse ++ bs.data.toList.drop i := by
  fun_induction ByteArray.toList.loop bs i r with
  | case1 i r h ih =>
    have hl : i < bs.data.toList.length := by rw [Array.length_toList]; exact h
    have hg : bs.get! i = bs.data.toList[i] := by
      show bs.data[i]! = _
      rw [getElem!_pos bs.data i (by simpa using hl)]
      simp
    rw [ih, List.drop_eq_getElem_cons hl, hg]
    simp
  | case2 i r h =>
    have hl : bs.data.toList.length ≤ i := by rw [Array.length_toList]; exact Nat.le_of_not_lt h
    rw [List.drop_of_length_le hl]
    simp
theorem ba_toList (t : ByteArray) : t.toList = t.data.toList := by
  have := loop_eq t 0 []
  simpa [ByteArray.toList] using this

def rFull (code : List Bool) (mg : Int) : Int := code.length + mg
def rOut (code : List Bool) (wd mg : Int) : Int := if rFull code mg < wd then wd else rFull code mg
def rMany (code : List Bool) (wd mg : Int) : Int := rOut code wd mg / rFull code mg
def rLeft (code : List Bool) (wd mg : Int) : Int := (rOut code wd mg - code.length * rMany code wd mg) / 2
/-- The row of a code: its modules, as wide as go in, in the middle. -/
def rowOf (code : List Bool) (wd mg : Int) : List Bool := rowList code (rLeft code wd mg) (rMany code wd mg) (rOut code wd mg).toNat
theorem rowOf_length (code : List Bool) (wd mg : Int) : (rowOf code wd mg).length = (rOut code wd mg).toNat := by simp [rowOf, rowList]
theorem rOut_ge (code : List Bool) (wd mg : Int) (q0 : 0 < (code.length : Int) + mg) (hm1 : mg ≤ 1000) (hw1 : wd ≤ 100000) (hlc : code.length ≤ 100000) : 0 < rOut code wd mg ∧ rOut code wd mg ≤ 200000 := by
  unfold rOut rFull; split <;> omega
theorem odRowOf (code : List Bool) (wd mg : Int) (q0 : 0 < (code.length : Int) + mg) (hm0 : 0 ≤ mg) (hm1 : mg ≤ 1000) (hw0 : 0 ≤ wd) (hw1 : wd ≤ 100000) (hlc : code.length ≤ 100000) :
    Ev (fun k => F.spec_ODRow.f k code wd mg) (rowOf code wd mg) :=
  odRow code wd mg (rFull code mg) (rOut code wd mg) (rMany code wd mg) (rLeft code wd mg) (rOut code wd mg).toNat q0 hm0 hm1 hw0 hw1 hlc rfl rfl rfl rfl (by have := rOut_ge code wd mg q0 hm1 hw1 hlc; omega)
theorem row_eqOf (code : List Bool) (wd mg : Int) (q0 : 0 < (code.length : Int) + mg) (hm0 : 0 ≤ mg) (hm1 : mg ≤ 1000) (hw1 : wd ≤ 100000) (hlc : code.length ≤ 100000) (R : Nat) (hR : (rOut code wd mg + 31) / 32 = (R : Int)) :
    unbits (cpy (paint code (rLeft code wd mg) (rMany code wd mg) (List.replicate R 0) code.length) (List.replicate R 0) 0 R) (rOut code wd mg).toNat = rowOf code wd mg := by
  have ho := rOut_ge code wd mg q0 hm1 hw1 hlc
  have hf : rFull code mg ≤ rOut code wd mg := by unfold rOut; split <;> omega
  have hf0 : 0 < rFull code mg := by unfold rFull; omega
  have hm : 1 ≤ rMany code wd mg := by unfold rMany; exact (Int.le_ediv_iff_mul_le (by omega)).2 (by omega)
  have hlm : (code.length : Int) * rMany code wd mg ≤ rOut code wd mg := by
    unfold rMany
    have h1 := Int.mul_ediv_self_le (x := rOut code wd mg) (k := rFull code mg) (by omega)
    have h4 := Int.mul_le_mul_of_nonneg_right (show (code.length : Int) ≤ rFull code mg by unfold rFull; omega) (show 0 ≤ rOut code wd mg / rFull code mg by exact Int.ediv_nonneg (by omega) (by omega))
    omega
  have hnn : 0 ≤ (code.length : Int) * rMany code wd mg := Int.mul_nonneg (by omega) (by omega)
  exact row_eq code _ _ R _ (by unfold rLeft; omega) hm (by unfold rLeft; omega) (by rw [← hR]; omega)

/-- The last step of a law that writes a row: the reference's row is the same. -/
theorem rowSame (w : World) (b : Nat) (code : List Bool) (wd mg : Int) (A : Option Addr) (c : Nat) (q0 : 0 < (code.length : Int) + mg) (hm1 : mg ≤ 1000) (hw1 : wd ≤ 100000) (hlc : code.length ≤ 100000)
    (hb : Blk w b 4 (bools (rowOf code wd mg)).toArray) (hC : Kd.C Kd.bool w A (rowOf code wd mg).length (rowOf code wd mg)) (hc : (rowOf code wd mg).length ≤ c) (N : Nat) (hN : (rowOf code wd mg).length = N) :
    Calls Tryz.prog 16 #[.slice (some ⟨b, 0, none⟩) N N, .slice A N c] w fun e w' => e = .returned (.bool true) ∧ Below w.heap.size w w' := by
  have hl := rowOf_length code wd mg
  have ho := rOut_ge code wd mg q0 hm1 hw1 hlc
  obtain ⟨k, hk⟩ := (sameBits (rowOf code wd mg) (by omega)).rounds
  subst hN
  refine (F.spec_BISameBits.calls k _ _ _ A c _ true w (C_bools hb (by omega)) (Nat.le_refl _) hC hc hk).mono ?_
  rintro e w' ⟨rfl, h⟩
  exact ⟨rfl, h.below⟩
theorem rowSpec (w : World) (code : List Bool) (wd mg : Int) (A : Option Addr) (c : Nat) (q0 : 0 < (code.length : Int) + mg) (hm0 : 0 ≤ mg) (hm1 : mg ≤ 1000) (hw0 : 0 ≤ wd) (hw1 : wd ≤ 100000) (hlc : code.length ≤ 100000)
    (n : Nat) (hn : code.length = n) (hC : Kd.C Kd.bool w A n code) (hc : n ≤ c) :
    Calls Tryz.prog 17 #[.slice A n c, .int .i64 wd, .int .i64 mg] w fun e w' => ∃ A' c', e = .returned (.slice A' (rowOf code wd mg).length c') ∧ (rowOf code wd mg).length ≤ c' ∧ Kd.C Kd.bool w' A' (rowOf code wd mg).length (rowOf code wd mg) ∧ Below w.heap.size w w' := by
  obtain ⟨k, hk⟩ := (odRowOf code wd mg q0 hm0 hm1 hw0 hw1 hlc).rounds
  subst hn
  refine (F.spec_ODRow.calls k A c code wd mg _ w hC hc hk).mono ?_
  rintro e w' ⟨v, rfl, hr, hb⟩
  obtain ⟨A', c', rfl, h1, h2⟩ := Kd.R_reads hr
  exact ⟨A', c', rfl, h1, h2, hb⟩
/-- The width and the margin. -/
theorem odWidths (w : World) (a b : Int) (ha : 0 ≤ a ∧ a ≤ 65535) (hb : 0 ≤ b ∧ b ≤ 255) :
    Calls Tryz.prog 14 #[.int .u16 a, .int .u8 b] w fun e w' => e = .returned (.tuple #[.int .i64 (a % 3000), .int .i64 (20 + b % 40)]) ∧ Below w.heap.size w w' := by
  refine (F.laws_odWidths.calls a b (a % 3000) (20 + b % 40) w ?_).mono ?_
  · unfold F.laws_odWidths.f
    have e1 : wrap64 a = a := by unfold wrap64; omega
    have e2 : wrap64 b = b := by unfold wrap64; omega
    rw [e1, e2, Int.tmod_eq_emod_of_nonneg ha.1, Int.tmod_eq_emod_of_nonneg hb.1]
    congr 2
    unfold wrap64; omega
  · rintro e w' ⟨rfl, h⟩
    exact ⟨rfl, h.below⟩

theorem wf_u8 {n : Int} (h : (Lit.int .u8 n).wf = true) : 0 ≤ n ∧ n ≤ 255 := by
  simp [Lit.wf, IntKind.min, IntKind.max, IntKind.bits, IntKind.signed] at h
  omega
theorem wf_u16 {n : Int} (h : (Lit.int .u16 n).wf = true) : 0 ≤ n ∧ n ≤ 65535 := by
  simp [Lit.wf, IntKind.min, IntKind.max, IntKind.bits, IntKind.signed] at h
  omega
theorem wf_bytes {l : List Int} (h : ∀ n ∈ l, (Lit.int .u8 n).wf = true) : ∀ v ∈ l, 0 ≤ v ∧ v ≤ 255 := fun v hv => wf_u8 (h v hv)
end Go.Proofs.YthkddnmomjcdaaaGreat.B
