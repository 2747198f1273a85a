import Derived.Test.YthkddnmomjcdaaaGreatEitf
import Derived.Test.YthkddnmomjcdaaaGreatS
namespace Go.Proofs.YthkddnmomjcdaaaGreat.B
open Go.RowKit Go.Proofs.YthkddnmomjcdaaaGreatW.PrintWords Go.Proofs.YthkddnmomjcdaaaGreatW.PrintLast Go.Proofs.YthkddnmomjcdaaaGreatW.PrintMore
set_option linter.unusedVariables false
set_option linter.unusedSimpArgs false

theorem itfCode_len (ds : List Nat) (h : ∀ d ∈ ds, d < 10) (n : Nat) (hn : ds.length = 2 * n) (hn2 : n ≤ 40) : (itfCode ds).length ≤ 1000 := by
  have := itfBody_length ds h n hn
  simp only [itfCode, List.length_append, this]
  simp [bars]
  omega
set_option maxHeartbeats 2000000 in
set_option maxRecDepth 100000 in
theorem lawItf (w : World) (A : Option Addr) (c : Nat) (l : List Int) (a b : Int) (hl : ∀ v ∈ l, 0 ≤ v ∧ v ≤ 255) (hC : Kd.C (Kd.int .u8) w A l.length l) (hc : l.length ≤ c) (hlen : l.length ≤ 9223372036854775807) (ha : 0 ≤ a ∧ a ≤ 65535) (hb : 0 ≤ b ∧ b ≤ 255) :
    Calls Tryz.prog 5 #[.slice A l.length c, .int .u16 a, .int .u8 b] w fun e w' => e = .returned (.bool true) ∧ Below w.heap.size w w' := by
  by_cases hz : l.length ≤ 2147483647
  · have HC := Aside0.mk hC
    have HL := Aside0.mk hl
    have HA := Aside0.mk ha
    have HB := Aside0.mk hb
    have hzz : decide ((2147483647 : Int) < (l.length : Int)) = false := decide_eq_false (by omega)
    clear hC hl ha hb hz hlen
    go_enter Tryz.func5, Tryz.ntmps5
    go_wp2_with fail
    refine (odDigits w A c l 2 HL.out HC.out hc (.inl rfl)).mono ?_
    rintro e w1 ⟨t, rfl, hb1, ht⟩
    have HB1 := Aside0.mk hb1
    clear hb1
    unfold DigPost at ht
    by_cases h2 : ((digs l).length : Int) < 2
    · rw [if_pos h2] at ht
      subst ht
      clear h2
      go_wp2
      go_ret
      exact ⟨rfl, HB1.out⟩
    · rw [if_neg h2] at ht
      have hdl := digs_len l
      obtain ⟨n, hn⟩ : ∃ n, min l.length 80 / 2 = n := ⟨_, rfl⟩
      rw [hn] at hdl
      have hn1 : 1 ≤ n ∧ n ≤ 40 := by omega
      have hID : IsDigits t (digs l) := ⟨ht, fun d hd => by
        simp only [digs, List.mem_map] at hd
        obtain ⟨v, _, rfl⟩ := hd
        omega⟩
      have hts : t.size = 2 * n := by rw [← data_length, ht, List.length_map, hdl]
      have hte : t.toList.isEmpty = false := by rw [ba_toList, ht]; cases hdg : digs l with
        | nil => rw [hdg] at hdl; simp at hdl; omega
        | cons x y => rfl
      have hcl : (itfCode (digs l)).length ≤ 1000 := itfCode_len _ hID.2 n hdl hn1.2
      have HID := Aside0.mk hID
      have HTS := Aside0.mk hts
      have HDL := Aside0.mk hdl
      have HN := Aside0.mk hn1
      obtain ⟨code, hcode⟩ : ∃ code, itfCode (digs l) = code := ⟨_, rfl⟩
      rw [hcode] at hcl
      have HCODE := Aside0.mk hcode
      have hw0 : 0 ≤ a % 3000 ∧ a % 3000 ≤ 100000 := by omega
      have hm0 : 0 ≤ 20 + b % 40 ∧ 20 + b % 40 ≤ 1000 ∧ 0 < (code.length : Int) + (20 + b % 40) := by omega
      obtain ⟨wd, hwd⟩ : ∃ wd, a % 3000 = wd := ⟨_, rfl⟩
      obtain ⟨mg, hmg⟩ : ∃ mg, 20 + b % 40 = mg := ⟨_, rfl⟩
      rw [hwd] at hw0
      rw [hmg] at hm0
      obtain ⟨hw0, hw1⟩ := hw0
      obtain ⟨hm0, hm1, hq0⟩ := hm0
      have HWD := Aside0.mk hwd
      have HMG := Aside0.mk hmg
      have hrl := rOut_ge code wd mg hq0 hm1 hw1 (by omega)
      have hrl2 := rowOf_length code wd mg
      have HRL := Aside0.mk (show (rowOf code wd mg).length ≤ 200000 by omega)
      clear ht hdl hn hn1 hts hID hcode hwd hmg h2 hrl hrl2
      go_wp2_with fail
      refine (odWidths w1 a b HA.out HB.out).mono ?_
      rintro e w2 ⟨rfl, hb2⟩
      have HB2 := Aside0.mk (HB1.out.trans (hb2.mono HB1.out.size))
      clear hb2
      rw [HWD.out, HMG.out]
      go_wp2_with fail
      refine (odRowW_itf w2 t wd mg code (by have := HTS.out; have := HN.out; omega) hw0 hq0 hm0 hm1 hw1 (by omega) (fun gm W => by
        rw [← HCODE.out]
        exact encItf W _ t (digs l) n HDL.out HN.out.2 HID.out)).mono ?_
      rintro e w3 ⟨bb, rfl, hbk, hb3⟩
      have HB3 := Aside0.mk (HB2.out.trans (hb3.mono HB2.out.size))
      have HBK := Aside0.mk hbk
      clear hb3 hbk hte
      obtain ⟨RN, hRN⟩ : ∃ n, (rowOf code wd mg).length = n := ⟨_, rfl⟩
      have HRN := Aside0.mk hRN
      rw [hRN]
      clear hRN
      obtain ⟨kk, hk⟩ := (itf_spec t (digs l) n HID.out HDL.out HN.out.2).rounds
      rw [HCODE.out] at hk
      have HK := Aside0.mk hk
      clear hk
      go_wp2_with fail
      refine (F.spec_ODItf.calls kk t code _ HK.out).mono ?_
      rintro e w4 ⟨v, rfl, hr4, hb4⟩
      obtain ⟨A4, c4, rfl, hc4, hC4⟩ := Kd.R_reads hr4
      have HBK4 := Aside0.mk (HBK.out.below hb4 HBK.out.lt)
      have HB4 := Aside0.mk (HB3.out.trans (hb4.mono HB3.out.size))
      have HC4 := Aside0.mk hC4
      clear hr4 hb4 hC4
      go_wp2_with fail
      refine (rowSpec w4 code wd mg A4 c4 hq0 hm0 hm1 hw0 hw1 (by omega) code.length rfl HC4.out hc4).mono ?_
      rintro e w5 ⟨A5, c5, rfl, hc5, hC5, hb5⟩
      have HBK5 := Aside0.mk (HBK4.out.below hb5 HBK4.out.lt)
      have HB5 := Aside0.mk (HB4.out.trans (hb5.mono HB4.out.size))
      have HC5 := Aside0.mk hC5
      have HC5' := Aside0.mk hc5
      clear hb5 hC5 hc5
      rw [HRN.out]
      go_wp2_with fail
      refine (rowSame w5 bb code wd mg A5 c5 hq0 hm1 hw1 (by omega) HBK5.out HC5.out HC5'.out RN HRN.out).mono ?_
      rintro e w6 ⟨rfl, hb6⟩
      have HB6 := Aside0.mk (HB5.out.trans (hb6.mono HB5.out.size))
      clear hb6
      go_wp2
      go_ret
      exact ⟨rfl, HB6.out⟩
  · have hzz : decide ((2147483647 : Int) < (l.length : Int)) = true := decide_eq_true (by omega)
    clear hC hl hz
    go_enter Tryz.func5, Tryz.ntmps5
    go_wp2
    go_ret
    exact ⟨rfl, Below.refl _ _⟩

theorem walkItf (w : World) (a0 : Option Addr) (len0 cap0 : Nat) (z0 : List Int) (a b : Int) (w0 : (a0 = none ∧ len0 = 0 ∧ cap0 = 0 ∧ z0 = []) ∨ ∃ x, a0 = some x ∧ len0 ≤ cap0 ∧ cap0 ≤ maxLen ∧ z0.length = cap0 ∧ (∀ i, i < z0.length → w.cell? (x.add i) = some (.int .u8 (z0.getD i 0))) ∧ ∀ n ∈ z0, (Lit.int .u8 n).wf = true)
    (wa : (Lit.int .u16 a).wf = true) (wb : (Lit.int .u8 b).wf = true) :
    Calls Tryz.prog 5 #[.slice a0 len0 cap0, .int .u16 a, .int .u8 b] w fun e w' => e = .returned (.bool true) ∧ Below w.heap.size w w' := by
  obtain ⟨l, rfl, hr, hm, hw, hc⟩ := ReadsInt.ofRowC w0
  exact lawItf w a0 cap0 l a b (wf_bytes hw) (Kd.C_of_reads (d := (0 : Int)) (h1 := fun _ => rfl) hr) hc (by unfold maxLen at hm; omega) (wf_u16 wa) (wf_u8 wb)
end Go.Proofs.YthkddnmomjcdaaaGreat.B
