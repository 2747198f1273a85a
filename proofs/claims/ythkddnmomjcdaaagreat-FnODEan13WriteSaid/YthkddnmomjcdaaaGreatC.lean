import Derived.Test.YthkddnmomjcdaaaGreatB
namespace Go.Proofs.YthkddnmomjcdaaaGreat.B
open Go.RowKit Go.Proofs.YthkddnmomjcdaaaGreatW.PrintWords Go.Proofs.YthkddnmomjcdaaaGreatW.PrintLast Go.Proofs.YthkddnmomjcdaaaGreatW.PrintMore
set_option linter.unusedVariables false
set_option linter.unusedSimpArgs false

/-- The words of a row of modules, each so many pixels wide. -/
def paint (code : List Bool) (left many : Int) (xs : List Int) : Nat → List Int
  | 0 => xs
  | n + 1 => if rdOf false code n then sreg (paint code left many xs n) (((xs.length : Int))) (left + n * many) many.toNat 0 1 else paint code left many xs n
theorem paint_length (code : List Bool) (left many : Int) (xs : List Int) (n : Nat) : (paint code left many xs n).length = xs.length := by
  induction n with
  | zero => rfl
  | succ n ih =>
    rw [paint]
    split
    · rw [sreg_length, ih]
    · exact ih

set_option maxHeartbeats 2000000 in
theorem render (w : World) (A : Option Addr) (c : Nat) (code : List Bool) (wd mg full out many left rs : Int) (R : Nat)
    (hc : Kd.C Kd.bool w A code.length code) (h0 : 0 < (code.length : Int) + mg) (hm0 : 0 ≤ mg) (hm1 : mg ≤ 1000) (hw0 : 0 ≤ wd) (hw1 : wd ≤ 100000) (hlen : code.length ≤ 100000)
    (hfull : (code.length : Int) + mg = full) (hout : (if full < wd then wd else full) = out) (hmany : out / full = many) (hleft : (out - code.length * many) / 2 = left) (hrs : (out + 31) / 32 = rs) (hR : rs = (R : Int)) :
    Calls Tryz.prog 99 #[.slice A code.length c, .int .i64 wd, .int .i64 1, .int .i64 mg] w fun e w' => e = .returned (.tuple #[.pointer (some ⟨w.heap.size + 1, 0, none⟩), .nilIface]) ∧
      Blk w' w.heap.size 78 (nums .u32 (paint code left many (List.replicate R 0) code.length)).toArray ∧
      Blk w' (w.heap.size + 1) 75 #[.int .i64 out, .int .i64 1, .int .i64 rs, .slice (some ⟨w.heap.size, 0, none⟩) R R] ∧ Below w.heap.size w w' := by
  have e1 : code.length * many ≤ out := by
    rw [← hmany]
    have := Int.mul_ediv_self_le (x := out) (k := full) (by omega)
    have h3 := Int.ediv_nonneg (show 0 ≤ out by split at hout <;> omega) (show 0 ≤ full by omega)
    have h4 := Int.mul_le_mul_of_nonneg_right (show (code.length : Int) ≤ full by omega) h3
    omega
  have ho : full ≤ out ∧ out ≤ 200000 := by split at hout <;> omega
  have hmy : 1 ≤ many := by
    rw [← hmany]
    exact (Int.le_ediv_iff_mul_le (by omega)).2 (by omega)
  have hnn : 0 ≤ (code.length : Int) * many := Int.mul_nonneg (by omega) (by omega)
  have hle : many ≤ 200000 := by
    rw [← hmany]
    exact Int.le_trans (Int.ediv_le_self _ (by omega)) (by omega)
  obtain ⟨lm, hlm⟩ : ∃ lm, (code.length : Int) * many = lm := ⟨_, rfl⟩
  rw [hlm] at e1 hnn hleft
  have q1 : wrap64 ((code.length : Int) * many) = lm := by rw [hlm]; unfold wrap64; omega
  have HC := Aside0.mk hc
  have HL := Aside0.mk hlm
  clear hc hlm
  have HO := Aside0.mk hout
  clear hout
  have hlft : 0 ≤ left ∧ left + lm ≤ out := by omega
  obtain ⟨hl1, hl2⟩ := hlft
  have HF := Aside0.mk hleft
  have HM := Aside0.mk hrs
  have HR := Aside0.mk hR
  clear hR
  go_enter Tryz.func99, Tryz.ntmps99
  go_wp2_with fail
  refine (maxI w wd full).mono ?_
  rintro e w' ⟨rfl, rfl⟩
  rw [HO.out]
  go_wp2_with fail
  refine (maxI w 1 1).mono ?_
  rintro e w' ⟨rfl, rfl⟩
  simp only [show (if (1 : Int) < 1 then (1 : Int) else 1) = 1 from rfl]
  go_wp2_with fail
  refine (newBM w out 1 rs R (by omega) (by omega) (by omega) HM.out (by rw [HR.out]; omega) (by have := HR.out; have := HM.out; omega)).mono ?_
  rintro e w1 ⟨rfl, hw1⟩
  have hbw : Below w.heap.size w w1 := by rw [hw1]; exact below_alloc (below_alloc (Below.refl _ _) _) _
  have b1 : Blk w1 w.heap.size 78 (nums .u32 (List.replicate R 0)).toArray := by rw [hw1]; exact Blk.alloc (Blk.new w _ _) _
  have b2 : Blk w1 (w.heap.size + 1) 75 #[.int .i64 out, .int .i64 1, .int .i64 rs, .slice (some ⟨w.heap.size, 0, none⟩) R R] := by
    rw [hw1]
    have := Blk.new (w.alloc (.cells (nums .u32 (List.replicate R 0)).toArray 78)) 75 #[.int .i64 out, .int .i64 1, .int .i64 rs, .slice (some ⟨w.heap.size, 0, none⟩) R R]
    simpa using this
  have HBW := Aside0.mk hbw
  have B1 := Aside0.mk b1
  have B2 := Aside0.mk b2
  clear hw1 hbw b1 b2
  go_wp2
  go_loopw [18, 19] (fun v u wr => ∃ k : Nat, k ≤ code.length ∧ v = .int .i64 k ∧ u = .int .i64 (left + k * many) ∧ Aside0 (Blk wr w.heap.size 78 (nums .u32 (paint code left many (List.replicate R 0) k)).toArray) ∧ Aside0 (Turn w1 wr w.heap.size)) (fun v _ _ => code.length - (intOf v).toNat)
  case atStart => exact ⟨0, by omega, rfl, by simp, B1, ⟨Turn.refl _ _⟩⟩
  case round =>
    obtain ⟨k, hk, rfl, rfl, HX, HU⟩ := hrel
    by_cases hlx : k < code.length
    · have hlx' : (k : Int) < code.length := by omega
      obtain ⟨ad, rfl, hcell⟩ := Kd.at_bool HC.out (k : Int) (by omega) hlx'
      replace hcell := ((HBW.out.trans (HU.out.below (Nat.le_refl _))).cell (World.block_lt_of_cell? w _ hcell)).trans hcell
      simp only [Int.toNat_natCast] at hcell
      obtain ⟨p, hp⟩ : ∃ p, (k : Int) * many = p := ⟨_, rfl⟩
      have hp1 : 0 ≤ p := by rw [← hp]; exact Int.mul_nonneg (by omega) (by omega)
      have hp2 : p + many ≤ lm := by
        have h1 := Int.mul_le_mul_of_nonneg_right (show (k : Int) + 1 ≤ code.length by omega) (show 0 ≤ many by omega)
        have h2 : ((k : Int) + 1) * many = k * many + many := by rw [Int.add_mul, Int.one_mul]
        have := HL.out
        omega
      have hp3 : left + ((k + 1 : Nat) : Int) * many = left + p + many := by
        have h2 : ((k : Int) + 1) * many = k * many + many := by rw [Int.add_mul, Int.one_mul]
        push_cast
        omega
      have HP := Aside0.mk hp3
      have HPP := Aside0.mk hp
      rw [hp]
      clear hp hp3
      by_cases hb : rdOf false code k = true
      · rw [hb] at hcell
        have HHB := Aside0.mk hb
        clear hb
        have hsz := B1.out.lt
        go_wp2_with fail
        refine (setRegion wr (w.heap.size + 1) w.heap.size out 1 rs (left + p) 0 many 1 _ R (HU.out.blk B2.out (by omega)) HX.out (by rw [paint_length, List.length_replicate]) (by have := HR.out; have := HM.out; omega) HM.out (by rw [HR.out]; omega) (by omega) (by omega) (by omega) (by omega) (by omega) (by omega) (by omega) (by omega)).mono ?_
        rintro e w2 ⟨rfl, hx2, hu2⟩
        have HX2 := Aside0.mk hx2
        have HU2 := Aside0.mk hu2
        clear hx2 hu2
        go_wp2
        go_roundw
        case rel => exact ⟨k + 1, by omega, by go_num, by rw [HP.out], ⟨by rw [paint, if_pos HHB.out, HPP.out, List.length_replicate, ← HR.out]; exact HX2.out⟩, ⟨HU.out.trans HU2.out⟩⟩
        case measure => simp [intOf]; omega
      · have hb' : rdOf false code k = false := by simpa using hb
        rw [hb'] at hcell
        have HHB := Aside0.mk hb'
        clear hb hb'
        go_wp2
        go_roundw
        case rel => exact ⟨k + 1, by omega, by go_num, by rw [HP.out], ⟨by rw [paint, if_neg (by rw [HHB.out]; simp)]; exact HX.out⟩, HU⟩
        case measure => simp [intOf]; omega
    · have : k = code.length := by omega
      subst this
      go_wp2
      go_ret2
      refine ⟨rfl, HX.out, HU.out.blk B2.out (by omega), HBW.out.trans (HU.out.below (Nat.le_refl _))⟩
end Go.Proofs.YthkddnmomjcdaaaGreat.B
