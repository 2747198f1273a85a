import Derived.Test.YthkddnmomjcdaaaGreatEbar
import Derived.Test.YthkddnmomjcdaaaGreatMbar
import Derived.Test.YthkddnmomjcdaaaGreatTbar
namespace Go.Proofs.YthkddnmomjcdaaaGreat.B
open Go.RowKit Go.Proofs.YthkddnmomjcdaaaGreatW.PrintWords Go.Proofs.YthkddnmomjcdaaaGreatW.PrintLast Go.Proofs.YthkddnmomjcdaaaGreatW.PrintMore
set_option linter.unusedVariables false
set_option linter.unusedSimpArgs false

theorem codeB_le {t : ByteArray} {ns : List Nat} {n : Nat} (h : IsBar t ns n) (hn : n ≤ 80) : (codeB ns).length ≤ 10000 := by
  have hl := h.len
  have h2 := h.two
  have hs : ∀ ms : List Nat, sumB ms ≤ 10 * ms.length := by
    intro ms
    induction ms with
    | nil => simp [sumB]
    | cons a r ih =>
      have : lenB a ≤ 10 := by unfold lenB; split <;> omega
      unfold sumB at ih ⊢
      simp only [List.map_cons, List.sum_cons, List.length_cons]
      omega
  have h3 := hs (ns.take (n - 1))
  rw [List.length_take] at h3
  unfold codeB
  rw [List.length_append, hl, preB_take h (n - 1) (by omega), chrB_length _ (by have := h.last; omega)]
  have : lenB (ns.getD (n - 1) 0) ≤ 10 := by unfold lenB; split <;> omega
  omega
set_option maxHeartbeats 2000000 in
set_option maxRecDepth 100000 in
theorem lawBar (w : World) (A : Option Addr) (c : Nat) (l : List Int) (a b : Int) (hl : ∀ v ∈ l, 0 ≤ v ∧ v ≤ 255) (hC : Kd.C (Kd.int .u8) w A l.length l) (hc : l.length ≤ c) (hlen : l.length ≤ 9223372036854775807) (ha : 0 ≤ a ∧ a ≤ 65535) (hb : 0 ≤ b ∧ b ≤ 255) :
    Calls Tryz.prog 4 #[.slice A l.length c, .int .u16 a, .int .u8 b] w fun e w' => e = .returned (.bool true) ∧ Below w.heap.size w w' := by
  by_cases hz : l.length ≤ 2147483647
  · have HC := Aside0.mk hC
    have HL := Aside0.mk hl
    have HA := Aside0.mk ha
    have HB := Aside0.mk hb
    have hzz : decide ((2147483647 : Int) < (l.length : Int)) = false := decide_eq_false (by omega)
    clear hC hl ha hb hlen
    by_cases h4 : l.length < 4
    · clear hz
      go_enter Tryz.func4, Tryz.ntmps4
      go_wp2_with fail
      refine (odBarNone w A c l h4).mono ?_
      rintro e w1 ⟨rfl, hb1⟩
      have HB1 := Aside0.mk hb1
      clear hb1
      go_wp2
      go_ret
      exact ⟨rfl, HB1.out⟩
    · have h40 : 4 ≤ l.length := by omega
      have HZ := Aside0.mk hz
      clear h4 hz
      go_enter Tryz.func4, Tryz.ntmps4
      go_wp2_with fail
      refine (odBarText w A c l HL.out HC.out hc h40 HZ.out).mono ?_
      rintro e w1 ⟨t, rfl, hID, hb1⟩
      have HB1 := Aside0.mk hb1
      clear hb1
      obtain ⟨ns, hns⟩ : ∃ ns, nsB l = ns := ⟨_, rfl⟩
      rw [hns] at hID
      have hnl : ns.length ≤ 52 := by rw [← hns]; unfold nsB; simp only [List.length_append, List.length_singleton, List.length_map, List.length_take, List.length_drop]; omega
      clear hns
      have hn2 := hID.two
      have hts : t.size = ns.length := by rw [← data_length, hID.text, List.length_map]
      have hte : t.toList.isEmpty = false := by
        rw [ba_toList, hID.text]
        cases ns with
        | nil => simp at hn2
        | cons x y => rfl
      obtain ⟨code, hcode⟩ : ∃ code, codeB ns = code := ⟨_, rfl⟩
      have hcl0 := codeB_le hID (by omega)
      rw [hcode] at hcl0
      have HENC := Aside0.mk (fun (gm : Nat) (W : World) => (show Calls Tryz.prog 132 #[.agg #[], .string t, .map (some gm)] W fun e w' => ∃ v, e = .returned (.tuple #[v, .nilIface]) ∧ Kd.R Kd.bool 4 w' W.heap.size (fun _ => True) v code ∧ Below W.heap.size W w' from by
        rw [← hcode]
        exact encBar_calls W _ t ns ns.length (by omega) hID))
      obtain ⟨kk, hk⟩ := (specBar t ns ns.length hID (by omega)).rounds
      rw [hcode] at hk
      have HK := Aside0.mk hk
      have hclb : code.length ≤ 10000 := by omega
      have htp : 0 < t.size := by omega
      clear hk hcode hcl0 hts hnl hn2 hID
      have hcl : code.length ≤ 10000 := by omega
      have hw0 : 0 ≤ a % 3000 ∧ a % 3000 ≤ 100000 := by omega
      have hm0 : 0 ≤ 20 + b % 40 ∧ 20 + b % 40 ≤ 1000 ∧ 0 < (code.length : Int) + (20 + b % 40) := by omega
      obtain ⟨wd, hwd⟩ : ∃ wd, a % 3000 = wd := ⟨_, rfl⟩
      obtain ⟨mg, hmg⟩ : ∃ mg, 20 + b % 40 = mg := ⟨_, rfl⟩
      rw [hwd] at hw0
      rw [hmg] at hm0
      obtain ⟨hw0, hw1⟩ := hw0
      obtain ⟨hm0, hm1, hq0⟩ := hm0
      have HWD := Aside0.mk hwd
      have HMG := Aside0.mk hmg
      clear hwd hmg
      go_wp2_with fail
      refine (odWidths w1 a b HA.out HB.out).mono ?_
      rintro e w2 ⟨rfl, hb2⟩
      have HB2 := Aside0.mk (HB1.out.trans (hb2.mono HB1.out.size))
      clear hb2
      rw [HWD.out, HMG.out]
      go_wp2_with fail
      refine (odRowW_bar w2 t wd mg code htp hw0 hq0 hm0 hm1 hw1 (by omega) HENC.out).mono ?_
      rintro e w3 ⟨bb, rfl, hbk, hb3⟩
      have HB3 := Aside0.mk (HB2.out.trans (hb3.mono HB2.out.size))
      have HBK := Aside0.mk hbk
      clear hb3 hbk hte
      obtain ⟨RN, hRN⟩ : ∃ n, (rowOf code wd mg).length = n := ⟨_, rfl⟩
      have HRN := Aside0.mk hRN
      rw [hRN]
      clear hRN
      go_wp2_with fail
      refine (F.spec_ODBar.calls kk t code _ HK.out).mono ?_
      rintro e w4 ⟨v, rfl, hr4, hb4⟩
      obtain ⟨A4, c4, rfl, hc4, hC4⟩ := Kd.R_reads hr4
      have HBK4 := Aside0.mk (HBK.out.below hb4 HBK.out.lt)
      have HB4 := Aside0.mk (HB3.out.trans (hb4.mono HB3.out.size))
      have HC4 := Aside0.mk hC4
      clear hr4 hb4 hC4
      go_wp2_with fail
      refine (rowSpec w4 code wd mg A4 c4 hq0 hm0 hm1 hw0 hw1 (by omega) code.length rfl HC4.out hc4).mono ?_
      rintro e w5 ⟨A5, c5, rfl, hc5, hC5, hb5⟩
      have HBK5 := Aside0.mk (HBK4.out.below hb5 HBK4.out.lt)
      have HB5 := Aside0.mk (HB4.out.trans (hb5.mono HB4.out.size))
      have HC5 := Aside0.mk hC5
      have HC5' := Aside0.mk hc5
      clear hb5 hC5 hc5
      rw [HRN.out]
      go_wp2_with fail
      refine (rowSame w5 bb code wd mg A5 c5 hq0 hm1 hw1 (by omega) HBK5.out HC5.out HC5'.out RN HRN.out).mono ?_
      rintro e w6 ⟨rfl, hb6⟩
      have HB6 := Aside0.mk (HB5.out.trans (hb6.mono HB5.out.size))
      clear hb6
      go_wp2
      go_ret
      exact ⟨rfl, HB6.out⟩
  · have hzz : decide ((2147483647 : Int) < (l.length : Int)) = true := decide_eq_true (by omega)
    clear hC hl hz
    go_enter Tryz.func4, Tryz.ntmps4
    go_wp2
    go_ret
    exact ⟨rfl, Below.refl _ _⟩
theorem walkBar (w : World) (a0 : Option Addr) (len0 cap0 : Nat) (z0 : List Int) (a b : Int) (w0 : (a0 = none ∧ len0 = 0 ∧ cap0 = 0 ∧ z0 = []) ∨ ∃ x, a0 = some x ∧ len0 ≤ cap0 ∧ cap0 ≤ maxLen ∧ z0.length = cap0 ∧ (∀ i, i < z0.length → w.cell? (x.add i) = some (.int .u8 (z0.getD i 0))) ∧ ∀ n ∈ z0, (Lit.int .u8 n).wf = true)
    (wa : (Lit.int .u16 a).wf = true) (wb : (Lit.int .u8 b).wf = true) :
    Calls Tryz.prog 4 #[.slice a0 len0 cap0, .int .u16 a, .int .u8 b] w fun e w' => e = .returned (.bool true) ∧ Below w.heap.size w w' := by
  obtain ⟨l, rfl, hr, hm, hw, hc⟩ := ReadsInt.ofRowC w0
  exact lawBar w a0 cap0 l a b (wf_bytes hw) (Kd.C_of_reads (d := (0 : Int)) (h1 := fun _ => rfl) hr) hc (by unfold maxLen at hm; omega) (wf_u16 wa) (wf_u8 wb)
end Go.Proofs.YthkddnmomjcdaaaGreat.B
