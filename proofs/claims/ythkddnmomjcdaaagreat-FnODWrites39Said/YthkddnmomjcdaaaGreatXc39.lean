import Derived.Test.YthkddnmomjcdaaaGreatEc39
import Derived.Test.YthkddnmomjcdaaaGreatM39
namespace Go.Proofs.YthkddnmomjcdaaaGreat.B
open Go.RowKit Go.Proofs.YthkddnmomjcdaaaGreatW.PrintWords Go.Proofs.YthkddnmomjcdaaaGreatW.PrintLast Go.Proofs.YthkddnmomjcdaaaGreatW.PrintMore
set_option linter.unusedVariables false
set_option linter.unusedSimpArgs false

theorem some39 (l : List Int) (hl : ∀ v ∈ l, 0 ≤ v ∧ v ≤ 255) (most : Nat) (t : ByteArray) (ht : t.data.toList = some_ sg39 l most) : Is39 t ((l.take most).map fun v => (v % 43).toNat) := by
  refine ⟨?_, fun n hn => ?_⟩
  · rw [ht, some_, List.map_map]
    rfl
  · simp only [List.mem_map] at hn
    obtain ⟨v, _, rfl⟩ := hn
    omega
set_option maxHeartbeats 2000000 in
set_option maxRecDepth 100000 in
theorem law39 (w : World) (A : Option Addr) (c : Nat) (l : List Int) (a b : Int) (hl : ∀ v ∈ l, 0 ≤ v ∧ v ≤ 255) (hC : Kd.C (Kd.int .u8) w A l.length l) (hc : l.length ≤ c) (hlen : l.length ≤ 9223372036854775807) (ha : 0 ≤ a ∧ a ≤ 65535) (hb : 0 ≤ b ∧ b ≤ 255) :
    Calls Tryz.prog 12 #[.slice A l.length c, .int .u16 a, .int .u8 b] w fun e w' => e = .returned (.bool true) ∧ Below w.heap.size w w' := by
  by_cases hz : l.length ≤ 2147483647
  · have HC := Aside0.mk hC
    have HL := Aside0.mk hl
    have HA := Aside0.mk ha
    have HB := Aside0.mk hb
    have hzz : decide ((2147483647 : Int) < (l.length : Int)) = false := decide_eq_false (by omega)
    clear hC hl ha hb hz hlen
    go_enter Tryz.func12, Tryz.ntmps12
    go_wp2_with fail
    refine (odSome w sg39 A c l 60 (by decide) (by decide) (by omega) HL.out HC.out hc).mono ?_
    rintro e w1 ⟨rfl, hb1⟩
    have HB1 := Aside0.mk hb1
    clear hb1
    obtain ⟨t, ht⟩ : ∃ t : ByteArray, (⟨(some_ sg39 l 60).toArray⟩ : ByteArray) = t := ⟨_, rfl⟩
    rw [ht]
    have htd : t.data.toList = some_ sg39 l 60 := by rw [← ht]
    have hID := some39 l HL.out 60 t htd
    obtain ⟨ns, hns⟩ : ∃ ns, ((l.take 60).map fun v => (v % 43).toNat) = ns := ⟨_, rfl⟩
    rw [hns] at hID
    have hnl : ns.length ≤ 60 := by rw [← hns, List.length_map, List.length_take]; omega
    clear ht htd hns
    by_cases h2 : ns = []
    · have : t = ⟨#[]⟩ := by
        have h := hID.1
        rw [h2] at h
        have h3 : t.data = #[] := Array.toList_inj.1 h
        cases t
        simp at h3
        rw [h3]
      subst this
      clear h2 hID
      go_wp2
      go_ret
      exact ⟨rfl, HB1.out⟩
    · have hn1 : 0 < ns.length := by
        cases ns with
        | nil => exact absurd rfl h2
        | cons x y => simp
      have hts : t.size = ns.length := by rw [← data_length, hID.1, List.length_map]
      have hte : t.toList.isEmpty = false := by
        rw [ba_toList, hID.1]
        cases ns with
        | nil => exact absurd rfl h2
        | cons x y => rfl
      obtain ⟨code, hcode⟩ : ∃ code, code39 ns = code := ⟨_, rfl⟩
      have hcl0 : code.length = 25 + 13 * ns.length := by
        rw [← hcode]
        unfold code39
        rw [List.length_append, List.length_append, List.length_append, star39_length, body39_length _ hID.2]
        simp; omega
      have HENC := Aside0.mk (fun (gm : Nat) (W : World) => (show Calls Tryz.prog 140 #[.agg #[], .string t, .map (some gm)] W fun e w' => ∃ v, e = .returned (.tuple #[v, .nilIface]) ∧ Kd.R Kd.bool 4 w' W.heap.size (fun _ => True) v code ∧ Below W.heap.size W w' from by
        rw [← hcode]
        exact enc39_calls W _ t ns ns.length rfl (by omega) hID))
      obtain ⟨kk, hk⟩ := (spec39 t ns ns.length hID rfl (by omega)).rounds
      rw [hcode] at hk
      have HK := Aside0.mk hk
      have hclb : code.length ≤ 10000 := by omega
      have htp : 0 < t.size := by omega
      clear hk hcode hcl0 hts hnl hn1
      have hcl : code.length ≤ 10000 := by omega
      have hw0 : 0 ≤ a % 3000 ∧ a % 3000 ≤ 100000 := by omega
      have hm0 : 0 ≤ 20 + b % 40 ∧ 20 + b % 40 ≤ 1000 ∧ 0 < (code.length : Int) + (20 + b % 40) := by omega
      obtain ⟨wd, hwd⟩ : ∃ wd, a % 3000 = wd := ⟨_, rfl⟩
      obtain ⟨mg, hmg⟩ : ∃ mg, 20 + b % 40 = mg := ⟨_, rfl⟩
      rw [hwd] at hw0
      rw [hmg] at hm0
      obtain ⟨hw0, hw1⟩ := hw0
      obtain ⟨hm0, hm1, hq0⟩ := hm0
      have HWD := Aside0.mk hwd
      have HMG := Aside0.mk hmg
      clear hwd hmg
      go_wp2_with fail
      refine (odWidths w1 a b HA.out HB.out).mono ?_
      rintro e w2 ⟨rfl, hb2⟩
      have HB2 := Aside0.mk (HB1.out.trans (hb2.mono HB1.out.size))
      clear hb2
      rw [HWD.out, HMG.out]
      go_wp2_with fail
      refine (odRowW_c39 w2 t wd mg code htp hw0 hq0 hm0 hm1 hw1 (by omega) HENC.out).mono ?_
      rintro e w3 ⟨bb, rfl, hbk, hb3⟩
      have HB3 := Aside0.mk (HB2.out.trans (hb3.mono HB2.out.size))
      have HBK := Aside0.mk hbk
      clear hb3 hbk hte
      obtain ⟨RN, hRN⟩ : ∃ n, (rowOf code wd mg).length = n := ⟨_, rfl⟩
      have HRN := Aside0.mk hRN
      rw [hRN]
      clear hRN
      go_wp2_with fail
      refine (F.spec_OD39.calls kk t code _ HK.out).mono ?_
      rintro e w4 ⟨v, rfl, hr4, hb4⟩
      obtain ⟨A4, c4, rfl, hc4, hC4⟩ := Kd.R_reads hr4
      have HBK4 := Aside0.mk (HBK.out.below hb4 HBK.out.lt)
      have HB4 := Aside0.mk (HB3.out.trans (hb4.mono HB3.out.size))
      have HC4 := Aside0.mk hC4
      clear hr4 hb4 hC4
      go_wp2_with fail
      refine (rowSpec w4 code wd mg A4 c4 hq0 hm0 hm1 hw0 hw1 (by omega) code.length rfl HC4.out hc4).mono ?_
      rintro e w5 ⟨A5, c5, rfl, hc5, hC5, hb5⟩
      have HBK5 := Aside0.mk (HBK4.out.below hb5 HBK4.out.lt)
      have HB5 := Aside0.mk (HB4.out.trans (hb5.mono HB4.out.size))
      have HC5 := Aside0.mk hC5
      have HC5' := Aside0.mk hc5
      clear hb5 hC5 hc5
      rw [HRN.out]
      go_wp2_with fail
      refine (rowSame w5 bb code wd mg A5 c5 hq0 hm1 hw1 (by omega) HBK5.out HC5.out HC5'.out RN HRN.out).mono ?_
      rintro e w6 ⟨rfl, hb6⟩
      have HB6 := Aside0.mk (HB5.out.trans (hb6.mono HB5.out.size))
      clear hb6
      go_wp2
      go_ret
      exact ⟨rfl, HB6.out⟩
  · have hzz : decide ((2147483647 : Int) < (l.length : Int)) = true := decide_eq_true (by omega)
    clear hC hl hz
    go_enter Tryz.func12, Tryz.ntmps12
    go_wp2
    go_ret
    exact ⟨rfl, Below.refl _ _⟩
theorem walk39 (w : World) (a0 : Option Addr) (len0 cap0 : Nat) (z0 : List Int) (a b : Int) (w0 : (a0 = none ∧ len0 = 0 ∧ cap0 = 0 ∧ z0 = []) ∨ ∃ x, a0 = some x ∧ len0 ≤ cap0 ∧ cap0 ≤ maxLen ∧ z0.length = cap0 ∧ (∀ i, i < z0.length → w.cell? (x.add i) = some (.int .u8 (z0.getD i 0))) ∧ ∀ n ∈ z0, (Lit.int .u8 n).wf = true)
    (wa : (Lit.int .u16 a).wf = true) (wb : (Lit.int .u8 b).wf = true) :
    Calls Tryz.prog 12 #[.slice a0 len0 cap0, .int .u16 a, .int .u8 b] w fun e w' => e = .returned (.bool true) ∧ Below w.heap.size w w' := by
  obtain ⟨l, rfl, hr, hm, hw, hc⟩ := ReadsInt.ofRowC w0
  exact law39 w a0 cap0 l a b (wf_bytes hw) (Kd.C_of_reads (d := (0 : Int)) (h1 := fun _ => rfl) hr) hc (by unfold maxLen at hm; omega) (wf_u16 wa) (wf_u8 wb)
end Go.Proofs.YthkddnmomjcdaaaGreat.B
