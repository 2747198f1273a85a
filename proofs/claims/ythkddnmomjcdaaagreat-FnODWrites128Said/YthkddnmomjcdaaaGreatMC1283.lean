import Derived.Test.YthkddnmomjcdaaaGreatMC1282
namespace Go.Proofs.YthkddnmomjcdaaaGreat.B
open Go.RowKit Go.Proofs.YthkddnmomjcdaaaGreatW.PrintWords Go.Proofs.YthkddnmomjcdaaaGreatW.PrintLast Go.Proofs.YthkddnmomjcdaaaGreatW.PrintMore
set_option linter.unusedVariables false
set_option linter.unusedSimpArgs false

theorem row_plain8 (code : List Bool) (h : code.length ≤ 100000) : rowOf code 0 20 = List.replicate 10 false ++ (code ++ List.replicate 10 false) := by
  have e1 : rOut code 0 20 = (code.length : Int) + 20 := by unfold rOut rFull; rw [if_neg (by omega)]
  have e2 : rMany code 0 20 = 1 := by unfold rMany rFull; rw [e1]; exact Int.ediv_self (by omega)
  have e3 : rLeft code 0 20 = 10 := by unfold rLeft; rw [e1, e2]; omega
  unfold rowOf rowList
  rw [e1, e2, e3]
  apply List.ext_getElem
  · simp; omega
  · intro i h1 h2
    simp only [List.getElem_map, List.getElem_range]
    unfold rowAt
    simp only [List.length_map, List.length_range] at h1
    by_cases c1 : i < 10
    · rw [if_neg (by omega), List.getElem_append_left (by simpa using c1), List.getElem_replicate]
    · rw [List.getElem_append_right (by simp; omega)]
      by_cases c2 : i < 10 + code.length
      · rw [if_pos (by omega), List.getElem_append_left (by simp; omega), Int.ediv_one]
        unfold rdOf
        rw [List.getD_eq_getElem?_getD, show ((i : Int) - 10).toNat = i - (List.replicate 10 false).length by simp; omega, List.getElem?_eq_getElem (by simp; omega)]
        rfl
      · rw [if_neg (by omega), List.getElem_append_right (by simp; omega), List.getElem_replicate]
def z10b : List Bool := List.replicate 10 false
theorem z10b_length : z10b.length = 10 := rfl
theorem z10b_get (i : Nat) (h : i < 10) : z10b[i]? = some false := by
  unfold z10b
  rw [List.getElem?_replicate, if_pos h]
/-- The row's ends are light, its middle is the code. -/
theorem row_ends (code : List Bool) (n : Nat) (hn : (z10b ++ (code ++ z10b)).length = n) : n = code.length + 20 ∧ (∀ i : Nat, i < 10 → rdOf false (z10b ++ (code ++ z10b)) (i : Int) = false ∧ rdOf false (z10b ++ (code ++ z10b)) ((n : Int) - 1 - (i : Int)) = false) ∧
    ((z10b ++ (code ++ z10b)).take ((n : Int) - 10).toNat).drop (10 : Int).toNat = code := by
  have hl : n = code.length + 20 := by rw [← hn, List.length_append, List.length_append, z10b_length]; omega
  refine ⟨hl, fun i hi => ⟨?_, ?_⟩, ?_⟩
  · unfold rdOf
    rw [Int.toNat_natCast, List.getD_eq_getElem?_getD, List.getElem?_append_left (by rw [z10b_length]; exact hi), z10b_get i hi]
    rfl
  · unfold rdOf
    rw [List.getD_eq_getElem?_getD, List.getElem?_append_right (by rw [z10b_length]; omega), List.getElem?_append_right (by rw [z10b_length]; omega), z10b_get _ (by rw [z10b_length]; omega)]
    rfl
  · rw [show ((n : Int) - 10).toNat = z10b.length + code.length by rw [z10b_length]; omega, show (10 : Int).toNat = z10b.length from rfl, ← List.append_assoc, List.take_append_of_le_length (by rw [List.length_append]; exact Nat.le_refl _), List.take_of_length_le (by rw [List.length_append]; exact Nat.le_refl _), List.drop_left]
theorem reads_of_blk {w : World} {g n : Nat} {xs : List Bool} (h : Blk w g 4 (bools xs).toArray) (hn : xs.length = n) (hm : n ≤ 1000000) : ReadsOf Value.bool false w (some ⟨g, 0, none⟩) n xs := by
  refine ⟨hn, by omega, fun _ => ⟨_, rfl, fun j hj => ?_⟩⟩
  rw [add_plain]
  have := h.bcell (j : Int) (by omega) (by omega)
  rw [Int.toNat_natCast] at this
  rw [this]
  unfold rdOf
  rw [Int.toNat_natCast]
set_option maxHeartbeats 8000000 in
set_option maxRecDepth 100000 in
theorem law128 (w : World) (A : Option Addr) (c : Nat) (l : List Int) (hl : ∀ v ∈ l, 0 ≤ v ∧ v ≤ 255) (hC : Kd.C (Kd.int .u8) w A l.length l) (hc : l.length ≤ c) (hlen : l.length ≤ 9223372036854775807) :
    Calls Tryz.prog 11 #[.slice A l.length c] w fun e w' => e = .returned (.bool true) ∧ Below w.heap.size w w' := by
  by_cases hz : l.length ≤ 2147483647
  · have HC := Aside0.mk hC
    have HL := Aside0.mk hl
    have hzz : decide ((2147483647 : Int) < (l.length : Int)) = false := decide_eq_false (by omega)
    clear hC hl hz hlen
    go_enter Tryz.func11, Tryz.ntmps11
    go_wp2_with fail
    obtain ⟨kA, hkA⟩ := (ascE l HL.out 60 (by omega)).rounds
    have hxr := asc_rng l 60
    have hxl := asc_len l 60
    obtain ⟨xs, hxs⟩ : ∃ xs, asc l 60 = xs := ⟨_, rfl⟩
    rw [hxs] at hkA hxr hxl
    have HKA := Aside0.mk hkA
    have HXR := Aside0.mk hxr
    clear hkA hxs hxr
    obtain ⟨t, ht⟩ : ∃ t : ByteArray, strOfNums xs = t := ⟨_, rfl⟩
    have hts : t.size = xs.length := by rw [← ht, str_size9]
    rw [ht] at HKA
    have HT := Aside0.mk ht
    have HTS := Aside0.mk hts
    clear ht hts
    refine (F.spec_ODAscii.calls kA A c l 60 t w HC.out hc HKA.out).mono ?_
    rintro e w1 ⟨rfl, hb1⟩
    have HB1 := Aside0.mk hb1
    clear hb1
    by_cases h2 : xs.length = 0
    · have : t = ⟨#[]⟩ := by
        have h := HTS.out
        rw [h2] at h
        have h3 : t.data = #[] := by
          have : t.data.size = 0 := h
          exact Array.eq_empty_of_size_eq_zero this
        cases t
        simp at h3
        rw [h3]
      subst this
      clear h2
      go_wp2
      go_ret
      exact ⟨rfl, HB1.out⟩
    · have hte : t.toList.isEmpty = false := by
        rw [ba_toList]
        cases hx : t.data.toList with
        | nil => exact absurd (by rw [← HTS.out, ← data_length, hx]; rfl) h2
        | cons x y => rfl
      obtain ⟨X, hX, hXE⟩ := exists_X xs (by omega) HXR.out
      have hff := full_facts xs X hX HXR.out (by omega)
      have hmp := mach_pre xs X hX HXR.out 0 (by show 0 < xs.length; omega)
      have hst : 103 ≤ rd (full128 xs X) 0 := by
        obtain ⟨r, hr⟩ := hmp
        rw [hr]
        have hc0 := cho_cases xs X hX 0 0
        have h1 : mach xs X 1 = ⟨0, cho xs X 0 0, [start128 (cho xs X 0 0)]⟩ := by
          show nxt xs X (mach xs X 0) = _
          unfold nxt
          rw [if_pos (show (mach xs X 0).p < xs.length by show 0 < xs.length; omega), if_neg]
          · rfl
          · show ¬ cho xs X 0 0 = 0
            omega
        rw [h1]
        show 103 ≤ start128 (cho xs X 0 0)
        unfold start128
        split
        · omega
        · split <;> omega
      obtain ⟨kT, hkT⟩ := (text128 xs X hX HXR.out (by omega) (by omega)).rounds
      obtain ⟨kV, hkV⟩ := (values128 (full128 xs X) hff.2.2.2 (by omega) hff.2.1 hst).rounds
      have hclen : (code128 (full128 xs X ++ [chk128 (full128 xs X)] ++ [106])).length ≤ 1500 := by
        have hck := chk_rng (full128 xs X)
        rw [code128_append, code128_append, code128_one, code128_one, List.length_append, List.length_append, code128_len _ hff.2.2.2, mods_106, mods_len _ (by omega)]
        omega
      have HENC := Aside0.mk (fun (gm : Nat) (W : World) (hm : W.heap[gm]? = some (.map #[⟨.int .i64 5, .iface 3 (.int .i64 20), 0⟩] 1)) => enc128_calls W gm 20 xs X xs.length rfl (by omega) hxl HXR.out hX hXE hm)
      rw [HT.out] at hkT HENC
      obtain ⟨code, hcode⟩ : ∃ code, code128 (full128 xs X ++ [chk128 (full128 xs X)] ++ [106]) = code := ⟨_, rfl⟩
      rw [hcode] at hkV hclen HENC
      obtain ⟨vs, hvs⟩ : ∃ vs, full128 xs X = vs := ⟨_, rfl⟩
      rw [hvs] at hkV hkT
      have HKV := Aside0.mk hkV
      have HKT := Aside0.mk hkT
      have htp : 0 < t.size := by have := HTS.out; omega
      have hrow := row_plain8 code (by omega)
      have hrow2 : rowOf code 0 20 = z10b ++ (code ++ z10b) := hrow
      obtain ⟨R, hR⟩ : ∃ R, z10b ++ (code ++ z10b) = R := ⟨_, rfl⟩
      obtain ⟨n, hn⟩ : ∃ n, (z10b ++ (code ++ z10b)).length = n := ⟨_, rfl⟩
      have hends := row_ends code n hn
      rw [hR] at hends hrow2 hn
      have hODW := odRowW_c128 w1 t 0 20 code htp (by omega) (by omega) (by omega) (by omega) (by omega) (by omega) HENC.out
      rw [hrow2, hn] at hODW
      obtain ⟨hnl, hlight, hmid⟩ := hends
      have HODW := Aside0.mk hODW
      have HNR := Aside0.mk hn
      have HMID := Aside0.mk hmid
      have HLIGHT := Aside0.mk hlight
      have HCL := Aside0.mk hnl
      have hn20 : decide ((n : Int) ≤ 20) = false ∨ code.length = 0 := by
        rcases Nat.eq_zero_or_pos code.length with h | h
        · exact .inr h
        · exact .inl (decide_eq_false (by omega))
      have hcp : 0 < code.length := by
        rw [← hcode, code128_append, List.length_append, code128_one, mods_106]; omega
      have hn20 : decide ((n : Int) ≤ 20) = false := decide_eq_false (by omega)
      have hn21 : 20 < n := by omega
      have hn22 : n ≤ 1520 := by omega
      clear hkV hkT hcode hvs hclen hff hmp hst hX hXE hrow hrow2 hR hODW hn hmid hlight hnl htp h2 hcp
      go_wp2_with fail
      refine HODW.out.mono ?_
      rintro e w3 ⟨bb, rfl, hbk, hb3⟩
      have HB3 := Aside0.mk (HB1.out.trans (hb3.mono HB1.out.size))
      have HBK := Aside0.mk hbk
      clear hb3 hbk HODW
      go_wp2_with fail
      go_loopw [6] (fun v wi => ∃ i : Nat, i ≤ 10 ∧ v = .int .i64 i ∧ w3 = wi) (fun v _ => 10 - (intOf v).toNat)
      case atStart => exact ⟨0, by omega, rfl, rfl⟩
      case round =>
        obtain ⟨i, hi, rfl, rfl⟩ := hrel
        by_cases hlt : i < 10
        · obtain ⟨hl1, hl2⟩ := HLIGHT.out i hlt
          have hc1 := HBK.out.bcell (i : Int) (by omega) (by rw [HNR.out]; omega)
          have hc2 := HBK.out.bcell ((n : Int) - 1 - (i : Int)) (by omega) (by rw [HNR.out]; omega)
          rw [hl1, Int.toNat_natCast] at hc1
          rw [hl2] at hc2
          have hc3 : w3.cell? ⟨bb, n - 1 - i, none⟩ = some (.bool false) := by rw [← hc2]; congr 2; omega
          clear hl1 hl2
          go_wp2
          go_roundw
          case rel => exact ⟨i + 1, by omega, by go_num, trivial⟩
          case measure => simp [intOf]; omega
        · have hi10 : i = 10 := by omega
          subst hi10
          clear hi hlt
          obtain ⟨i0, hi0, _, hsz0, _⟩ := info_parts F.info4
          obtain ⟨A2, hcut, hA2, hC2⟩ := print_mid_of (P := Tryz.prog) Value.bool false 27 4 .i64 .i64 Tryz.underlying27 hi0 hsz0 (some ⟨bb, 0, none⟩) n R 10 ((n : Int) - 10) (by omega) (by omega) (by rw [HNR.out]; omega) (by rw [HNR.out]; exact Nat.le_refl _)
          rw [HMID.out] at hcut hA2 hC2
          rw [HNR.out] at hcut hA2
          have HR2 := Aside0.mk (Kd.C_of_reads (h1 := fun _ => rfl) (hA2 w3 (reads_of_blk HBK.out HNR.out (by omega))))
          have HC2 := Aside0.mk hC2
          clear hA2 hC2 hi0 hsz0
          go_wp2_with fail
          refine (F.spec_OD128Values.calls kV A2 _ code vs true w3 HR2.out HC2.out HKV.out).mono ?_
          rintro e w4 ⟨v4, rfl, hr4, hb4⟩
          obtain ⟨A4, c4, rfl, hc4, hC4⟩ := Kd.R_reads hr4
          have HB4 := Aside0.mk (HB3.out.trans (hb4.mono HB3.out.size))
          have HC4 := Aside0.mk hC4
          clear hr4 hb4 hC4 hcut
          go_wp2_with fail
          refine (F.spec_OD128Text.calls kT A4 c4 vs t true w4 HC4.out hc4 HKT.out).mono ?_
          rintro e w5 ⟨rfl, hb5⟩
          have HB5 := Aside0.mk (HB4.out.trans (hb5.mono HB4.out.size))
          clear hb5
          go_wp2
          go_ret
          exact ⟨rfl, HB5.out⟩
  · have hzz : decide ((2147483647 : Int) < (l.length : Int)) = true := decide_eq_true (by omega)
    clear hC hl hz
    go_enter Tryz.func11, Tryz.ntmps11
    go_wp2
    go_ret
    exact ⟨rfl, Below.refl _ _⟩
theorem walk128 (w : World) (a0 : Option Addr) (len0 cap0 : Nat) (z0 : List Int) (w0 : (a0 = none ∧ len0 = 0 ∧ cap0 = 0 ∧ z0 = []) ∨ ∃ x, a0 = some x ∧ len0 ≤ cap0 ∧ cap0 ≤ maxLen ∧ z0.length = cap0 ∧ (∀ i, i < z0.length → w.cell? (x.add i) = some (.int .u8 (z0.getD i 0))) ∧ ∀ n ∈ z0, (Lit.int .u8 n).wf = true) :
    Calls Tryz.prog 11 #[.slice a0 len0 cap0] w fun e w' => e = .returned (.bool true) ∧ Below w.heap.size w w' := by
  obtain ⟨l, rfl, hr, hm, hw, hc⟩ := ReadsInt.ofRowC w0
  exact law128 w a0 cap0 l (wf_bytes hw) (Kd.C_of_reads (d := (0 : Int)) (h1 := fun _ => rfl) hr) hc (by unfold maxLen at hm; omega)
end Go.Proofs.YthkddnmomjcdaaaGreat.B
