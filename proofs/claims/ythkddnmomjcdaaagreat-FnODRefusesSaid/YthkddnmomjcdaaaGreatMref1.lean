import Derived.Test.YthkddnmomjcdaaaGreatMref0
namespace Go.Proofs.YthkddnmomjcdaaaGreat.B
open Go.RowKit Go.Proofs.YthkddnmomjcdaaaGreatW.PrintWords Go.Proofs.YthkddnmomjcdaaaGreatW.PrintLast Go.Proofs.YthkddnmomjcdaaaGreatW.PrintMore
set_option linter.unusedVariables false
set_option linter.unusedSimpArgs false

/-! ### The reference's Interleaved 2 of 5 -/
theorem bt_dig {t : ByteArray} {ds : List Nat} (h : IsDigits t ds) (i : Nat) (hi : i < t.size) : bt t i = 48 + (ds.getD i 0 : Nat) ∧ ds.getD i 0 < 10 := by
  obtain ⟨hd, h1, h2⟩ := digits_get h i hi
  have e : ds.getD i 0 = ds[i] := by rw [List.getD_eq_getElem?_getD, List.getElem?_eq_getElem hd]; rfl
  rw [e]
  refine ⟨?_, h2⟩
  have := bt_at t (i : Int) (by simpa using hi)
  rw [← this]
  simp only [Int.toNat_natCast, h1]
  omega
theorem elem_itf (a : Nat) (ha : a < 10) : ∃ wd, F.spec_odItfWide.f ((48 + (a : Int) - 48) % 256) = some wd ∧ Ev (fun k => F.spec_odElements.f k wd 5 3) (itfPat a) := by
  have : ∀ a : Fin 10, ∃ wd, F.spec_odItfWide.f ((48 + ((a : Nat) : Int) - 48) % 256) = some wd ∧ F.spec_odElements.f 6 wd 5 3 = some (itfPat a) := by
    intro a
    refine ⟨(F.spec_odItfWide.f ((48 + ((a : Nat) : Int) - 48) % 256)).getD 0, ?_⟩
    revert a
    decide +kernel
  obtain ⟨wd, h1, h2⟩ := this ⟨a, ha⟩
  exact ⟨wd, h1, Ev.of (F.spec_odElements.mono _ _ _) h2⟩

def itfWs : List Nat → List Int
  | a :: b :: r => inter (itfPat a) (itfPat b) ++ itfWs r
  | _ => []
theorem itf_bars : ∀ (ds : List Nat), (∀ d ∈ ds, d < 10) → (itfWs ds).length % 2 = 0 ∧ bars true (itfWs ds) = itfBody ds
  | [], _ => ⟨rfl, rfl⟩
  | [a], _ => ⟨rfl, rfl⟩
  | a :: b :: r, h => by
    have ha := h a (by simp)
    have hb := h b (by simp)
    obtain ⟨h1, h2⟩ := itf_bars r (fun d hd => h d (by simp [hd]))
    have hl := inter_len a b ha hb 5 (by omega)
    rw [pat_take a ha, pat_take b hb] at hl
    refine ⟨by simp only [itfWs, List.length_append]; omega, ?_⟩
    simp only [itfWs, itfBody]
    rw [bars_even _ _ (by omega), h2]

theorem itf_in (x0 : ByteArray) (i : Int) (a b : Nat) (ha : a < 10) (hb : b < 10) (r : List Bool) (ws : List Int) (hw : ws.length ≤ 1000000)
    (H : Ev (fun k => F.spec_ODItf.l0 k x0 (ws ++ inter (itfPat a) (itfPat b)) (wrap64 (i + 2))) r) : Ev (fun k => F.spec_ODItf.l1 k x0 ws i (itfPat a) (itfPat b) 0) r := by
  have hla : (itfPat a).length = 5 := by
    have : ∀ a : Fin 10, (itfPat a).length = 5 := by decide +kernel
    exact this ⟨a, ha⟩
  have hlb : (itfPat b).length = 5 := by
    have : ∀ a : Fin 10, (itfPat a).length = 5 := by decide +kernel
    exact this ⟨b, hb⟩
  suffices K : ∀ (d q : Nat), q + d = 5 → Ev (fun k => F.spec_ODItf.l1 k x0 (ws ++ inter ((itfPat a).take q) ((itfPat b).take q)) i (itfPat a) (itfPat b) q) r from by
    have := K 5 0 rfl
    simpa [inter] using this
  intro d
  induction d with
  | zero =>
    intro q hq
    obtain rfl : q = 5 := by omega
    rw [pat_take a ha, pat_take b hb]
    refine Ev.step (fun k => ?_) H
    rw [F.spec_ODItf.l1, if_neg (by omega)]
  | succ d ih =>
    intro q hq
    have hs := inter_step a b ha hb q (by omega)
    have hl := inter_len a b ha hb q (by omega)
    refine Ev.step (fun k => ?_) (ih (q + 1) (by omega))
    rw [F.spec_ODItf.l1, if_pos (by omega), if_pos (by omega), if_pos (by omega), if_pos (by omega)]
    simp only [Option.bind_some]
    rw [if_pos (by simp only [List.length_append, List.length_cons, List.length_nil]; omega), ← hs, show wrap64 ((q : Int) + 1) = ((q + 1 : Nat) : Int) by unfold wrap64; omega]
    simp

theorem itfWs_len : ∀ (ds : List Nat), (∀ d ∈ ds, d < 10) → (itfWs ds).length ≤ 5 * ds.length ∧ ∀ p ∈ itfWs ds, 0 ≤ p ∧ p ≤ 1000
  | [], _ => ⟨by simp [itfWs], by simp [itfWs]⟩
  | [a], _ => ⟨by simp [itfWs], by simp [itfWs]⟩
  | a :: b :: r, h => by
    have ha := h a (by simp)
    have hb := h b (by simp)
    obtain ⟨h1, h2⟩ := itfWs_len r (fun d hd => h d (by simp [hd]))
    have hl := inter_len a b ha hb 5 (by omega)
    rw [pat_take a ha, pat_take b hb] at hl
    have hp : ∀ p ∈ inter (itfPat a) (itfPat b), 0 ≤ p ∧ p ≤ 1000 := by
      have : ∀ (a b : Fin 10), ∀ p ∈ inter (itfPat a) (itfPat b), 0 ≤ p ∧ p ≤ 1000 := by decide +kernel
      exact this ⟨a, ha⟩ ⟨b, hb⟩
    refine ⟨by simp only [itfWs, List.length_append, List.length_cons]; omega, fun p hm => ?_⟩
    simp only [itfWs, List.mem_append] at hm
    exact hm.elim (hp p) (h2 p)
theorem itfWs_snoc : ∀ (k : Nat) (ds : List Nat) (h : 2 * k + 1 < ds.length), itfWs (ds.take (2 * k + 2)) = itfWs (ds.take (2 * k)) ++ inter (itfPat (ds.getD (2 * k) 0)) (itfPat (ds.getD (2 * k + 1) 0))
  | 0, a :: b :: r, h => by simp [itfWs]
  | k + 1, a :: b :: r, h => by
    have ih := itfWs_snoc k r (by simp at h; omega)
    have e1 : 2 * (k + 1) + 2 = (2 * k + 2) + 2 := by omega
    have e2 : 2 * (k + 1) = (2 * k) + 2 := by omega
    have e3 : 2 * (k + 1) + 1 = (2 * k + 1) + 2 := by omega
    rw [e1, e3, e2]
    simp only [List.take_succ_cons, itfWs, ih, List.append_assoc, List.getD_cons_succ]
theorem itf_spec (t : ByteArray) (ds : List Nat) (n : Nat) (h : IsDigits t ds) (hn : ds.length = 2 * n) (hn2 : n ≤ 40) : Ev (fun k => F.spec_ODItf.f k t) (itfCode ds) := by
  have hsz : t.size = 2 * n := by rw [← data_length, h.1]; simp [hn]
  have hlt := h.2
  suffices H : ∀ (d i : Nat), i + d = n → Ev (fun k => F.spec_ODItf.l0 k t ([1, 1, 1, 1] ++ itfWs (ds.take (2 * i))) ((2 * i : Nat) : Int)) (itfCode ds) from by
    have := H n 0 (by omega)
    exact this
  intro d
  induction d with
  | zero =>
    intro i hi
    obtain rfl : i = n := by omega
    rw [List.take_of_length_le (by omega)]
    obtain ⟨h1, h2⟩ := itf_bars ds hlt
    obtain ⟨h3, h4⟩ := itfWs_len ds hlt
    have hb := odBars ([1, 1, 1, 1] ++ itfWs ds ++ [3, 1, 1]) (fun p hp => by
      simp only [List.mem_append] at hp
      rcases hp with (hp | hp) | hp
      · revert p; decide
      · exact h4 p hp
      · revert p; decide) (by simp; omega)
    have e : bars true ([1, 1, 1, 1] ++ itfWs ds ++ [3, 1, 1]) = itfCode ds := by
      rw [bars_even _ _ (by simp only [List.length_append]; simp; omega), bars_even _ _ (by rfl), h2]
      rfl
    rw [e] at hb
    refine Ev.step (f := fun k => (F.spec_ODBars.f k ([1, 1, 1, 1] ++ itfWs ds ++ [3, 1, 1])).bind fun t => some t) (fun k => ?_) (hb.bind (Ev.now _))
    rw [F.spec_ODItf.l0, if_neg (by rw [show wrap64 (((2 * i : Nat) : Int) + 1) = 2 * i + 1 by unfold wrap64; omega, hsz]; omega)]
    simp only [Option.bind_some]
    rw [if_pos (by simp; omega)]
  | succ d ih =>
    intro i hi
    have h1 := ih (i + 1) (by omega)
    rw [show 2 * (i + 1) = 2 * i + 2 by omega, itfWs_snoc i ds (by omega), ← List.append_assoc] at h1
    obtain ⟨b1, l1⟩ := bt_dig h (2 * i) (by omega)
    obtain ⟨b2, l2⟩ := bt_dig h (2 * i + 1) (by omega)
    obtain ⟨w1, f1, g1⟩ := elem_itf _ l1
    obtain ⟨w2, f2, g2⟩ := elem_itf _ l2
    have hin := itf_in t ((2 * i : Nat) : Int) _ _ l1 l2 (itfCode ds) ([1, 1, 1, 1] ++ itfWs (ds.take (2 * i))) (by
      have := (itfWs_len (ds.take (2 * i)) (fun d hd => hlt d (List.mem_of_mem_take hd))).1
      simp only [List.length_append, List.length_take, List.length_cons, List.length_nil] at this ⊢
      omega) (by rw [show wrap64 (((2 * i : Nat) : Int) + 2) = ((2 * i + 2 : Nat) : Int) by unfold wrap64; omega]; exact h1)
    refine Ev.step (f := fun k => (F.spec_odElements.f k w1 5 3).bind fun a => (F.spec_odElements.f k w2 5 3).bind fun b => F.spec_ODItf.l1 k t ([1, 1, 1, 1] ++ itfWs (ds.take (2 * i))) ((2 * i : Nat) : Int) a b 0) (fun k => ?_) (Ev.bind g1 (Ev.bind g2 hin))
    rw [F.spec_ODItf.l0, show wrap64 (((2 * i : Nat) : Int) + 1) = ((2 * i + 1 : Nat) : Int) by unfold wrap64; omega, if_pos (by rw [hsz]; omega), if_pos (by omega), if_pos (by rw [hsz]; omega), b1, f1]
    simp only [Option.bind_some, if_pos (show (0 : Int) ≤ ((2 * i + 1 : Nat) : Int) by omega), b2, f2]

theorem itfCode_len (ds : List Nat) (h : ∀ d ∈ ds, d < 10) (n : Nat) (hn : ds.length = 2 * n) (hn2 : n ≤ 40) : (itfCode ds).length ≤ 1000 := by
  have := itfBody_length ds h n hn
  simp only [itfCode, List.length_append, this]
  simp [bars]
  omega
set_option maxHeartbeats 2000000 in
set_option maxRecDepth 100000 in
theorem lawItf (w : World) (A : Option Addr) (c : Nat) (l : List Int) (a b : Int) (hl : ∀ v ∈ l, 0 ≤ v ∧ v ≤ 255) (hC : Kd.C (Kd.int .u8) w A l.length l) (hc : l.length ≤ c) (hlen : l.length ≤ 9223372036854775807) (ha : 0 ≤ a ∧ a ≤ 65535) (hb : 0 ≤ b ∧ b ≤ 255) :
    Calls Tryz.prog 5 #[.slice A l.length c, .int .u16 a, .int .u8 b] w fun e w' => e = .returned (.bool true) ∧ Below w.heap.size w w' := by
  by_cases hz : l.length ≤ 2147483647
  · have HC := Aside0.mk hC
    have HL := Aside0.mk hl
    have HA := Aside0.mk ha
    have HB := Aside0.mk hb
    have hzz : decide ((2147483647 : Int) < (l.length : Int)) = false := decide_eq_false (by omega)
    clear hC hl ha hb hz hlen
    go_enter Tryz.func5, Tryz.ntmps5
    go_wp2_with fail
    refine (odDigits w A c l 2 HL.out HC.out hc (.inl rfl)).mono ?_
    rintro e w1 ⟨t, rfl, hb1, ht⟩
    have HB1 := Aside0.mk hb1
    clear hb1
    unfold DigPost at ht
    by_cases h2 : ((digs l).length : Int) < 2
    · rw [if_pos h2] at ht
      subst ht
      clear h2
      go_wp2
      go_ret
      exact ⟨rfl, HB1.out⟩
    · rw [if_neg h2] at ht
      have hdl := digs_len l
      obtain ⟨n, hn⟩ : ∃ n, min l.length 80 / 2 = n := ⟨_, rfl⟩
      rw [hn] at hdl
      have hn1 : 1 ≤ n ∧ n ≤ 40 := by omega
      have hID : IsDigits t (digs l) := ⟨ht, fun d hd => by
        simp only [digs, List.mem_map] at hd
        obtain ⟨v, _, rfl⟩ := hd
        omega⟩
      have hts : t.size = 2 * n := by rw [← data_length, ht, List.length_map, hdl]
      have hte : t.toList.isEmpty = false := by rw [ba_toList, ht]; cases hdg : digs l with
        | nil => rw [hdg] at hdl; simp at hdl; omega
        | cons x y => rfl
      have hcl : (itfCode (digs l)).length ≤ 1000 := itfCode_len _ hID.2 n hdl hn1.2
      have HID := Aside0.mk hID
      have HTS := Aside0.mk hts
      have HDL := Aside0.mk hdl
      have HN := Aside0.mk hn1
      obtain ⟨code, hcode⟩ : ∃ code, itfCode (digs l) = code := ⟨_, rfl⟩
      rw [hcode] at hcl
      have HCODE := Aside0.mk hcode
      have hw0 : 0 ≤ a % 3000 ∧ a % 3000 ≤ 100000 := by omega
      have hm0 : 0 ≤ 20 + b % 40 ∧ 20 + b % 40 ≤ 1000 ∧ 0 < (code.length : Int) + (20 + b % 40) := by omega
      obtain ⟨wd, hwd⟩ : ∃ wd, a % 3000 = wd := ⟨_, rfl⟩
      obtain ⟨mg, hmg⟩ : ∃ mg, 20 + b % 40 = mg := ⟨_, rfl⟩
      rw [hwd] at hw0
      rw [hmg] at hm0
      obtain ⟨hw0, hw1⟩ := hw0
      obtain ⟨hm0, hm1, hq0⟩ := hm0
      have HWD := Aside0.mk hwd
      have HMG := Aside0.mk hmg
      have hrl := rOut_ge code wd mg hq0 hm1 hw1 (by omega)
      have hrl2 := rowOf_length code wd mg
      have HRL := Aside0.mk (show (rowOf code wd mg).length ≤ 200000 by omega)
      clear ht hdl hn hn1 hts hID hcode hwd hmg h2 hrl hrl2
      go_wp2_with fail
      refine (odWidths w1 a b HA.out HB.out).mono ?_
      rintro e w2 ⟨rfl, hb2⟩
      have HB2 := Aside0.mk (HB1.out.trans (hb2.mono HB1.out.size))
      clear hb2
      rw [HWD.out, HMG.out]
      go_wp2_with fail
      refine (odRowW_itf w2 t wd mg code (by have := HTS.out; have := HN.out; omega) hw0 hq0 hm0 hm1 hw1 (by omega) (fun gm W => by
        rw [← HCODE.out]
        exact encItf W _ t (digs l) n HDL.out HN.out.2 HID.out)).mono ?_
      rintro e w3 ⟨bb, rfl, hbk, hb3⟩
      have HB3 := Aside0.mk (HB2.out.trans (hb3.mono HB2.out.size))
      have HBK := Aside0.mk hbk
      clear hb3 hbk hte
      obtain ⟨RN, hRN⟩ : ∃ n, (rowOf code wd mg).length = n := ⟨_, rfl⟩
      have HRN := Aside0.mk hRN
      rw [hRN]
      clear hRN
      obtain ⟨kk, hk⟩ := (itf_spec t (digs l) n HID.out HDL.out HN.out.2).rounds
      rw [HCODE.out] at hk
      have HK := Aside0.mk hk
      clear hk
      go_wp2_with fail
      refine (F.spec_ODItf.calls kk t code _ HK.out).mono ?_
      rintro e w4 ⟨v, rfl, hr4, hb4⟩
      obtain ⟨A4, c4, rfl, hc4, hC4⟩ := Kd.R_reads hr4
      have HBK4 := Aside0.mk (HBK.out.below hb4 HBK.out.lt)
      have HB4 := Aside0.mk (HB3.out.trans (hb4.mono HB3.out.size))
      have HC4 := Aside0.mk hC4
      clear hr4 hb4 hC4
      go_wp2_with fail
      refine (rowSpec w4 code wd mg A4 c4 hq0 hm0 hm1 hw0 hw1 (by omega) code.length rfl HC4.out hc4).mono ?_
      rintro e w5 ⟨A5, c5, rfl, hc5, hC5, hb5⟩
      have HBK5 := Aside0.mk (HBK4.out.below hb5 HBK4.out.lt)
      have HB5 := Aside0.mk (HB4.out.trans (hb5.mono HB4.out.size))
      have HC5 := Aside0.mk hC5
      have HC5' := Aside0.mk hc5
      clear hb5 hC5 hc5
      rw [HRN.out]
      go_wp2_with fail
      refine (rowSame w5 bb code wd mg A5 c5 hq0 hm1 hw1 (by omega) HBK5.out HC5.out HC5'.out RN HRN.out).mono ?_
      rintro e w6 ⟨rfl, hb6⟩
      have HB6 := Aside0.mk (HB5.out.trans (hb6.mono HB5.out.size))
      clear hb6
      go_wp2
      go_ret
      exact ⟨rfl, HB6.out⟩
  · have hzz : decide ((2147483647 : Int) < (l.length : Int)) = true := decide_eq_true (by omega)
    clear hC hl hz
    go_enter Tryz.func5, Tryz.ntmps5
    go_wp2
    go_ret
    exact ⟨rfl, Below.refl _ _⟩

theorem walkItf (w : World) (a0 : Option Addr) (len0 cap0 : Nat) (z0 : List Int) (a b : Int) (w0 : (a0 = none ∧ len0 = 0 ∧ cap0 = 0 ∧ z0 = []) ∨ ∃ x, a0 = some x ∧ len0 ≤ cap0 ∧ cap0 ≤ maxLen ∧ z0.length = cap0 ∧ (∀ i, i < z0.length → w.cell? (x.add i) = some (.int .u8 (z0.getD i 0))) ∧ ∀ n ∈ z0, (Lit.int .u8 n).wf = true)
    (wa : (Lit.int .u16 a).wf = true) (wb : (Lit.int .u8 b).wf = true) :
    Calls Tryz.prog 5 #[.slice a0 len0 cap0, .int .u16 a, .int .u8 b] w fun e w' => e = .returned (.bool true) ∧ Below w.heap.size w w' := by
  obtain ⟨l, rfl, hr, hm, hw, hc⟩ := ReadsInt.ofRowC w0
  exact lawItf w a0 cap0 l a b (wf_bytes hw) (Kd.C_of_reads (d := (0 : Int)) (h1 := fun _ => rfl) hr) hc (by unfold maxLen at hm; omega) (wf_u16 wa) (wf_u8 wb)

theorem fmts_c39 (w : World) :
    Calls Tryz.prog 141 #[.agg #[]] w fun e w' => e = .returned (.slice (some ⟨w.heap.size + 1, 0, none⟩) 1 1) ∧ w' = (w.alloc (.cells #[] 89)).alloc (.cells (nums .i64 [2]).toArray 49) := by
  go_enter Tryz.func141, Tryz.ntmps141
  go_wp2
  go_ret
  exact ⟨rfl, rfl⟩
theorem new_c39 (w : World) : Calls Tryz.prog 49 #[] w fun e w' => e = .returned (.iface 85 (.pointer (some ⟨w.heap.size, 0, none⟩))) ∧ w' = w.alloc (.cells #[.iface 89 (.agg #[]), .int .i64 10] 106) := by
  go_enter Tryz.func49, Tryz.ntmps49
  go_wp2_with (go_at_call 70; refine (newOdw _ _ _).mono ?_; rintro e w' ⟨rfl, rfl⟩)
  go_ret
  exact ⟨rfl, rfl⟩
theorem writer_c39 (w : World) : Calls Tryz.prog 29 #[.int .i64 2] w fun e w' => e = .returned (.iface 85 (.pointer (some ⟨w.heap.size, 0, none⟩))) ∧ w' = w.alloc (.cells #[.iface 89 (.agg #[]), .int .i64 10] 106) := by
  go_enter Tryz.func29, Tryz.ntmps29
  go_wp2_with (go_at_call 49; refine (new_c39 _).mono ?_; rintro e w' ⟨rfl, rfl⟩)
  go_ret
  exact ⟨rfl, rfl⟩
theorem meth1_c39 (W : World) : Sem.run Tryz.prog (method 315 89 (.agg #[]) "given.example/pub-quietzone/pub/gozxing/oned.getSupportedWriteFormats") W = .ok (141, .agg #[]) W := by kernel_rfl
theorem meth2_c39 (W : World) : Sem.run Tryz.prog (method 315 89 (.agg #[]) "given.example/pub-quietzone/pub/gozxing/oned.encodeWithHints") W = .ok (140, .agg #[]) W := by kernel_rfl

set_option maxHeartbeats 2000000 in
set_option maxRecDepth 100000 in
theorem encode_c39_ok (w : World) (g gm : Nat) (text : ByteArray) (wd mg : Int) (code : List Bool) (full out many left rs : Int) (R : Nat)
    (hg : Blk w g 106 #[.iface 89 (.agg #[]), .int .i64 10]) (hm : w.heap[gm]? = some (.map #[⟨.int .i64 5, .iface 3 (.int .i64 mg), 0⟩] 1)) (h0 : 0 < text.size) (h1 : 0 ≤ wd)
    (q0 : 0 < (code.length : Int) + mg) (hm0 : 0 ≤ mg) (hm1 : mg ≤ 1000) (hw1 : wd ≤ 100000) (hlc : code.length ≤ 100000)
    (hfull : (code.length : Int) + mg = full) (hout : (if full < wd then wd else full) = out) (hmany : out / full = many) (hleft : (out - code.length * many) / 2 = left) (hrs : (out + 31) / 32 = rs) (hR : rs = (R : Int))
    (henc : ∀ W : World, Calls Tryz.prog 140 #[.agg #[], .string text, .map (some gm)] W fun e w' => ∃ v, e = .returned (.tuple #[v, .nilIface]) ∧ Kd.R Kd.bool 4 w' W.heap.size (fun _ => True) v code ∧ Below W.heap.size W w') :
    Calls Tryz.prog 94 #[.pointer (some ⟨g, 0, none⟩), .string text, .int .i64 2, .int .i64 wd, .int .i64 1, .map (some gm)] w fun e w' => ∃ b, w.heap.size ≤ b ∧ e = .returned (.tuple #[.pointer (some ⟨b + 1, 0, none⟩), .nilIface]) ∧ Blk w' b 78 (nums .u32 (paint code left many (List.replicate R 0) code.length)).toArray ∧ Blk w' (b + 1) 75 #[.int .i64 out, .int .i64 1, .int .i64 rs, .slice (some ⟨b, 0, none⟩) R R] ∧ Below w.heap.size w w' := by
  have c0 : w.cell? ⟨g, 0, none⟩ = some (.iface 89 (.agg #[])) := hg.cell 0
  have hlen : ((text.size : Int) == 0) = false := beq_eq_false_iff_ne.mpr (by omega)
  have hwd : decide (wd < 0) = false := decide_eq_false (by omega)
  have m1 := meth1_c39
  have HG := Aside0.mk hg
  have HM := Aside0.mk hm
  have HE := Aside0.mk henc
  clear hg hm henc
  have HH := Aside0.mk (⟨hfull, hout, hmany, hleft, hrs, hR⟩ : _ ∧ _ ∧ _ ∧ _ ∧ _ ∧ _)
  clear hfull hout hmany hleft hrs hR
  go_enter Tryz.func94, Tryz.ntmps94
  go_wp2_with fail
  refine (fmts_c39 w).mono ?_
  rintro e w1 ⟨rfl, hw1⟩
  have hb1 : Below w.heap.size w w1 := by rw [hw1]; exact below_alloc (below_alloc (Below.refl _ _) _) _
  have hf : Blk w1 (w.heap.size + 1) 49 (nums .i64 [2]).toArray := by
    rw [hw1]
    have := Blk.new (w.alloc (.cells #[] 89)) 49 (nums .i64 [2]).toArray
    simpa using this
  clear hw1 c0 m1
  have HB1 := Aside0.mk hb1
  have HF := Aside0.mk hf
  clear hb1 hf
  go_wp2_with fail
  refine (contains1 w1 (w.heap.size + 1) 2 HF.out).mono ?_
  rintro e w2 ⟨rfl, hb2⟩
  have HB2 := Aside0.mk (HB1.out.trans (hb2.mono HB1.out.size))
  clear hb2
  have hg2 := HG.out.below HB2.out HG.out.lt
  have c0 : w2.cell? ⟨g, 0, none⟩ = some (.iface 89 (.agg #[])) := hg2.cell 0
  have c1 : w2.cell? ⟨g, 1, none⟩ = some (.int .i64 10) := hg2.cell 1
  have hl := run_lk w2 gm (.iface 3 (.int .i64 mg)) ((HB2.out.block gm (blk_lt HM.out)).trans HM.out)
  have ha := run_ta mg
  have m2 := meth2_c39
  clear hg2
  go_wp2_with fail
  refine (HE.out w2).mono ?_
  rintro e w3 ⟨v, rfl, hr, hb3⟩
  obtain ⟨A, c, rfl, hcl, hc⟩ := Kd.R_reads hr
  have HB3 := Aside0.mk (HB2.out.trans (hb3.mono HB2.out.size))
  have HC := Aside0.mk hc
  clear hc hcl hr hb3 c0 c1 hl
  go_wp2_with fail
  obtain ⟨hfull, hout, hmany, hleft, hrs, hR⟩ := HH.out
  refine (render w3 A c code wd mg full out many left rs R HC.out q0 hm0 hm1 h1 hw1 hlc hfull hout hmany hleft hrs hR).mono ?_
  clear hfull hout hmany hleft hrs hR
  rintro e w4 ⟨rfl, hx1, hx2, hb4⟩
  have HX1 := Aside0.mk hx1
  have HX2 := Aside0.mk hx2
  have HB4 := Aside0.mk (HB3.out.trans (hb4.mono HB3.out.size))
  clear hx1 hx2 hb4
  go_wp2
  go_ret2
  exact ⟨_, HB3.out.size, rfl, HX1.out, HX2.out, HB4.out⟩

set_option maxHeartbeats 2000000 in
set_option maxRecDepth 100000 in
theorem encode_c39_no (w : World) (g gm : Nat) (text : ByteArray) (wd mg : Int) 
    (hg : Blk w g 106 #[.iface 89 (.agg #[]), .int .i64 10]) (hm : w.heap[gm]? = some (.map #[⟨.int .i64 5, .iface 3 (.int .i64 mg), 0⟩] 1)) (h0 : 0 < text.size) (h1 : 0 ≤ wd)
    (henc : ∀ W : World, Calls Tryz.prog 140 #[.agg #[], .string text, .map (some gm)] W fun e w' => ∃ v x, e = .returned (.tuple #[v, .iface 141 x]) ∧ Below W.heap.size W w') :
    Calls Tryz.prog 94 #[.pointer (some ⟨g, 0, none⟩), .string text, .int .i64 2, .int .i64 wd, .int .i64 1, .map (some gm)] w fun e w' => (∃ x, e = .returned (.tuple #[.pointer none, .iface 141 x])) ∧ Below w.heap.size w w' := by
  have c0 : w.cell? ⟨g, 0, none⟩ = some (.iface 89 (.agg #[])) := hg.cell 0
  have hlen : ((text.size : Int) == 0) = false := beq_eq_false_iff_ne.mpr (by omega)
  have hwd : decide (wd < 0) = false := decide_eq_false (by omega)
  have m1 := meth1_c39
  have HG := Aside0.mk hg
  have HM := Aside0.mk hm
  have HE := Aside0.mk henc
  clear hg hm henc
  go_enter Tryz.func94, Tryz.ntmps94
  go_wp2_with fail
  refine (fmts_c39 w).mono ?_
  rintro e w1 ⟨rfl, hw1⟩
  have hb1 : Below w.heap.size w w1 := by rw [hw1]; exact below_alloc (below_alloc (Below.refl _ _) _) _
  have hf : Blk w1 (w.heap.size + 1) 49 (nums .i64 [2]).toArray := by
    rw [hw1]
    have := Blk.new (w.alloc (.cells #[] 89)) 49 (nums .i64 [2]).toArray
    simpa using this
  clear hw1 c0 m1
  have HB1 := Aside0.mk hb1
  have HF := Aside0.mk hf
  clear hb1 hf
  go_wp2_with fail
  refine (contains1 w1 (w.heap.size + 1) 2 HF.out).mono ?_
  rintro e w2 ⟨rfl, hb2⟩
  have HB2 := Aside0.mk (HB1.out.trans (hb2.mono HB1.out.size))
  clear hb2
  have hg2 := HG.out.below HB2.out HG.out.lt
  have c0 : w2.cell? ⟨g, 0, none⟩ = some (.iface 89 (.agg #[])) := hg2.cell 0
  have c1 : w2.cell? ⟨g, 1, none⟩ = some (.int .i64 10) := hg2.cell 1
  have hl := run_lk w2 gm (.iface 3 (.int .i64 mg)) ((HB2.out.block gm (blk_lt HM.out)).trans HM.out)
  have ha := run_ta mg
  have m2 := meth2_c39
  clear hg2
  go_wp2_with fail
  refine (HE.out w2).mono ?_
  rintro e w3 ⟨v, x, rfl, hb3⟩
  have HB3 := Aside0.mk (HB2.out.trans (hb3.mono HB2.out.size))
  clear hb3 c0 c1 hl
  go_wp2
  go_ret2
  exact ⟨⟨_, rfl⟩, HB3.out⟩

set_option maxHeartbeats 2000000 in
set_option maxRecDepth 100000 in
theorem odWrite_c39_ok (w : World) (text : ByteArray) (wd mg : Int) (code : List Bool) (full out many left rs : Int) (R OUT : Nat) (h0 : 0 < text.size) (h1 : 0 ≤ wd)
    (q0 : 0 < (code.length : Int) + mg) (hm0 : 0 ≤ mg) (hm1 : mg ≤ 1000) (hw1 : wd ≤ 100000) (hlc : code.length ≤ 100000)
    (hfull : (code.length : Int) + mg = full) (hout : (if full < wd then wd else full) = out) (hmany : out / full = many) (hleft : (out - code.length * many) / 2 = left) (hrs : (out + 31) / 32 = rs) (hR : rs = (R : Int)) (hOUT : out = (OUT : Int))
    (henc : ∀ (gm : Nat) (W : World), Calls Tryz.prog 140 #[.agg #[], .string text, .map (some gm)] W fun e w' => ∃ v, e = .returned (.tuple #[v, .nilIface]) ∧ Kd.R Kd.bool 4 w' W.heap.size (fun _ => True) v code ∧ Below W.heap.size W w') :
    Calls Tryz.prog 15 #[.int .i64 2, .string text, .int .i64 wd, .int .i64 mg] w fun e w' => ∃ b, e = .returned (.tuple #[.slice (some ⟨b, 0, none⟩) OUT OUT, .bool true]) ∧ Blk w' b 4 (bools (unbits (cpy (paint code left many (List.replicate R 0) code.length) (List.replicate R 0) 0 R) OUT)).toArray ∧ Below w.heap.size w w' := by
  have hmm := @run_makeMap Tryz.prog
  have HE := Aside0.mk henc
  clear henc
  have HH := Aside0.mk (⟨hfull, hout, hmany, hleft, hrs, hR, hOUT⟩ : _ ∧ _ ∧ _ ∧ _ ∧ _ ∧ _ ∧ _)
  have hob : 0 ≤ out ∧ out ≤ 200000 := by split at hout <;> omega
  obtain ⟨hob1, hob2⟩ := hob
  clear hfull hout hmany hleft hrs hR hOUT
  go_enter Tryz.func15, Tryz.ntmps15
  go_wp2_with fail
  refine (writer_c39 w).mono ?_
  rintro e w1 ⟨rfl, hw1⟩
  have hi := run_ins w1 (.iface 3 (.int .i64 mg))
  have hq := methE w.heap.size
  have hb1 : Below w.heap.size w w1 := by rw [hw1]; exact below_alloc (Below.refl _ _) _
  have hg : Blk w1 w.heap.size 106 #[.iface 89 (.agg #[]), .int .i64 10] := by rw [hw1]; exact Blk.new _ _ _
  have HB1 := Aside0.mk hb1
  have HG := Aside0.mk hg
  clear hw1 hb1 hg
  go_wp2_with fail
  obtain ⟨hfull, hout, hmany, hleft, hrs, hR, hOUT⟩ := HH.out
  have hma : Below w1.heap.size w1 (w1.alloc (.map #[⟨.int .i64 5, .iface 3 (.int .i64 mg), 0⟩] 1)) := below_alloc (Below.refl _ _) _
  refine (encode_c39_ok _ w.heap.size w1.heap.size text wd mg code full out many left rs R (HG.out.below hma HG.out.lt) (heap_alloc_new _ _) h0 h1 q0 hm0 hm1 hw1 hlc hfull hout hmany hleft hrs hR (HE.out _)).mono ?_
  rintro e w2 ⟨b, hb, rfl, hx1, hx2, hb2⟩
  have hl : (paint code left many (List.replicate R 0) code.length).length = R := by rw [paint_length, List.length_replicate]
  have HX1 := Aside0.mk hx1
  have HX2 := Aside0.mk hx2
  have HB2 := Aside0.mk (HB1.out.trans ((hma.mono HB1.out.size).trans (hb2.mono (Nat.le_trans HB1.out.size hma.size))))
  have HLL := Aside0.mk hl
  clear hfull hout hmany hleft hrs hR hOUT hma hx1 hx2 hb2 hl hi hmm hq hb
  go_wp2_with fail
  obtain ⟨hfull, hout, hmany, hleft, hrs, hR, hOUT⟩ := HH.out
  refine (getRow w2 (b + 1) b out 1 rs 0 _ R R HX2.out HX1.out HLL.out (by omega) hrs hR (by omega) (by omega) (by omega) (by omega) (by omega)).mono ?_
  rintro e w3 ⟨rfl, hy1, hy2, hb3, hsz⟩
  rw [Int.zero_mul] at hy1
  have hl2 : (cpy (paint code left many (List.replicate R 0) code.length) (List.replicate R 0) 0 R).length = R := by rw [cpy_length, List.length_replicate]
  have HY1 := Aside0.mk hy1
  rw [hOUT] at hy2
  have HY2 := Aside0.mk hy2
  have HB3 := Aside0.mk (HB2.out.trans (hb3.mono HB2.out.size))
  have HL2 := Aside0.mk hl2
  have h32 : ((OUT : Int) + 31) / 32 = R := by rw [← hOUT, hrs, hR]
  have H32 := Aside0.mk h32
  have hou : OUT ≤ 200000 := by omega
  clear hfull hout hmany hleft hrs hR hy1 hy2 hb3 hsz hl2 h32 HLL hOUT
  go_wp2_with fail
  refine (toBools w3 _ _ OUT _ R HY2.out HY1.out HL2.out (by have := H32.out; omega) (by omega) H32.out).mono ?_
  rintro e w4 ⟨rfl, hz, hb4⟩
  have HZ := Aside0.mk hz
  have HB4 := Aside0.mk (HB3.out.trans (hb4.mono HB3.out.size))
  clear hz hb4
  go_wp2
  go_ret2
  exact ⟨_, rfl, HZ.out, HB4.out⟩

set_option maxHeartbeats 2000000 in
set_option maxRecDepth 100000 in
theorem odWrite_c39_no (w : World) (text : ByteArray) (wd mg : Int) (h0 : 0 < text.size) (h1 : 0 ≤ wd)
    (henc : ∀ (gm : Nat) (W : World), Calls Tryz.prog 140 #[.agg #[], .string text, .map (some gm)] W fun e w' => ∃ v x, e = .returned (.tuple #[v, .iface 141 x]) ∧ Below W.heap.size W w') :
    Calls Tryz.prog 15 #[.int .i64 2, .string text, .int .i64 wd, .int .i64 mg] w fun e w' => e = .returned (.tuple #[.slice none 0 0, .bool false]) ∧ Below w.heap.size w w' := by
  have hmm := @run_makeMap Tryz.prog
  have HE := Aside0.mk henc
  clear henc
  go_enter Tryz.func15, Tryz.ntmps15
  go_wp2_with fail
  refine (writer_c39 w).mono ?_
  rintro e w1 ⟨rfl, hw1⟩
  have hi := run_ins w1 (.iface 3 (.int .i64 mg))
  have hq := methE w.heap.size
  have hb1 : Below w.heap.size w w1 := by rw [hw1]; exact below_alloc (Below.refl _ _) _
  have hg : Blk w1 w.heap.size 106 #[.iface 89 (.agg #[]), .int .i64 10] := by rw [hw1]; exact Blk.new _ _ _
  have HB1 := Aside0.mk hb1
  have HG := Aside0.mk hg
  clear hw1 hb1 hg
  go_wp2_with fail
  have hma : Below w1.heap.size w1 (w1.alloc (.map #[⟨.int .i64 5, .iface 3 (.int .i64 mg), 0⟩] 1)) := below_alloc (Below.refl _ _) _
  refine (encode_c39_no _ w.heap.size w1.heap.size text wd mg (HG.out.below hma HG.out.lt) (heap_alloc_new _ _) h0 h1 (HE.out _)).mono ?_
  rintro e w2 ⟨⟨x, rfl⟩, hb2⟩
  have HB2 := Aside0.mk (HB1.out.trans ((hma.mono HB1.out.size).trans (hb2.mono (Nat.le_trans HB1.out.size hma.size))))
  clear hma hb2 hi hmm hq
  go_wp2
  go_ret2
  exact ⟨rfl, HB2.out⟩

/-- ODWrite of the format 2: the row of the code. -/
theorem odRowW_c39 (w : World) (text : ByteArray) (wd mg : Int) (code : List Bool) (h0 : 0 < text.size) (h1 : 0 ≤ wd)
    (q0 : 0 < (code.length : Int) + mg) (hm0 : 0 ≤ mg) (hm1 : mg ≤ 1000) (hw1 : wd ≤ 100000) (hlc : code.length ≤ 100000)
    (henc : ∀ (gm : Nat) (W : World), Calls Tryz.prog 140 #[.agg #[], .string text, .map (some gm)] W fun e w' => ∃ v, e = .returned (.tuple #[v, .nilIface]) ∧ Kd.R Kd.bool 4 w' W.heap.size (fun _ => True) v code ∧ Below W.heap.size W w') :
    Calls Tryz.prog 15 #[.int .i64 2, .string text, .int .i64 wd, .int .i64 mg] w fun e w' => ∃ b, e = .returned (.tuple #[.slice (some ⟨b, 0, none⟩) (rowOf code wd mg).length (rowOf code wd mg).length, .bool true]) ∧ Blk w' b 4 (bools (rowOf code wd mg)).toArray ∧ Below w.heap.size w w' := by
  have ho := rOut_ge code wd mg q0 hm1 hw1 hlc
  refine (odWrite_c39_ok w text wd mg code (rFull code mg) (rOut code wd mg) (rMany code wd mg) (rLeft code wd mg) ((rOut code wd mg + 31) / 32) ((rOut code wd mg + 31) / 32).toNat (rOut code wd mg).toNat h0 h1 q0 hm0 hm1 hw1 hlc rfl rfl rfl rfl rfl (by omega) (by omega) henc).mono ?_
  rintro e w' ⟨b, rfl, hb, hw⟩
  rw [row_eqOf code wd mg q0 hm0 hm1 hw1 hlc _ (by omega)] at hb
  exact ⟨b, by rw [rowOf_length], hb, hw⟩

theorem fmts_c93 (w : World) :
    Calls Tryz.prog 148 #[.agg #[]] w fun e w' => e = .returned (.slice (some ⟨w.heap.size + 1, 0, none⟩) 1 1) ∧ w' = (w.alloc (.cells #[] 90)).alloc (.cells (nums .i64 [3]).toArray 49) := by
  go_enter Tryz.func148, Tryz.ntmps148
  go_wp2
  go_ret
  exact ⟨rfl, rfl⟩
theorem new_c93 (w : World) : Calls Tryz.prog 50 #[] w fun e w' => e = .returned (.iface 85 (.pointer (some ⟨w.heap.size, 0, none⟩))) ∧ w' = w.alloc (.cells #[.iface 90 (.agg #[]), .int .i64 10] 106) := by
  go_enter Tryz.func50, Tryz.ntmps50
  go_wp2_with (go_at_call 70; refine (newOdw _ _ _).mono ?_; rintro e w' ⟨rfl, rfl⟩)
  go_ret
  exact ⟨rfl, rfl⟩
theorem writer_c93 (w : World) : Calls Tryz.prog 29 #[.int .i64 3] w fun e w' => e = .returned (.iface 85 (.pointer (some ⟨w.heap.size, 0, none⟩))) ∧ w' = w.alloc (.cells #[.iface 90 (.agg #[]), .int .i64 10] 106) := by
  go_enter Tryz.func29, Tryz.ntmps29
  go_wp2_with (go_at_call 50; refine (new_c93 _).mono ?_; rintro e w' ⟨rfl, rfl⟩)
  go_ret
  exact ⟨rfl, rfl⟩
theorem meth1_c93 (W : World) : Sem.run Tryz.prog (method 315 90 (.agg #[]) "given.example/pub-quietzone/pub/gozxing/oned.getSupportedWriteFormats") W = .ok (148, .agg #[]) W := by kernel_rfl
theorem meth2_c93 (W : World) : Sem.run Tryz.prog (method 315 90 (.agg #[]) "given.example/pub-quietzone/pub/gozxing/oned.encodeWithHints") W = .ok (147, .agg #[]) W := by kernel_rfl

set_option maxHeartbeats 2000000 in
set_option maxRecDepth 100000 in
theorem encode_c93_ok (w : World) (g gm : Nat) (text : ByteArray) (wd mg : Int) (code : List Bool) (full out many left rs : Int) (R : Nat)
    (hg : Blk w g 106 #[.iface 90 (.agg #[]), .int .i64 10]) (hm : w.heap[gm]? = some (.map #[⟨.int .i64 5, .iface 3 (.int .i64 mg), 0⟩] 1)) (h0 : 0 < text.size) (h1 : 0 ≤ wd)
    (q0 : 0 < (code.length : Int) + mg) (hm0 : 0 ≤ mg) (hm1 : mg ≤ 1000) (hw1 : wd ≤ 100000) (hlc : code.length ≤ 100000)
    (hfull : (code.length : Int) + mg = full) (hout : (if full < wd then wd else full) = out) (hmany : out / full = many) (hleft : (out - code.length * many) / 2 = left) (hrs : (out + 31) / 32 = rs) (hR : rs = (R : Int))
    (henc : ∀ W : World, Calls Tryz.prog 147 #[.agg #[], .string text, .map (some gm)] W fun e w' => ∃ v, e = .returned (.tuple #[v, .nilIface]) ∧ Kd.R Kd.bool 4 w' W.heap.size (fun _ => True) v code ∧ Below W.heap.size W w') :
    Calls Tryz.prog 94 #[.pointer (some ⟨g, 0, none⟩), .string text, .int .i64 3, .int .i64 wd, .int .i64 1, .map (some gm)] w fun e w' => ∃ b, w.heap.size ≤ b ∧ e = .returned (.tuple #[.pointer (some ⟨b + 1, 0, none⟩), .nilIface]) ∧ Blk w' b 78 (nums .u32 (paint code left many (List.replicate R 0) code.length)).toArray ∧ Blk w' (b + 1) 75 #[.int .i64 out, .int .i64 1, .int .i64 rs, .slice (some ⟨b, 0, none⟩) R R] ∧ Below w.heap.size w w' := by
  have c0 : w.cell? ⟨g, 0, none⟩ = some (.iface 90 (.agg #[])) := hg.cell 0
  have hlen : ((text.size : Int) == 0) = false := beq_eq_false_iff_ne.mpr (by omega)
  have hwd : decide (wd < 0) = false := decide_eq_false (by omega)
  have m1 := meth1_c93
  have HG := Aside0.mk hg
  have HM := Aside0.mk hm
  have HE := Aside0.mk henc
  clear hg hm henc
  have HH := Aside0.mk (⟨hfull, hout, hmany, hleft, hrs, hR⟩ : _ ∧ _ ∧ _ ∧ _ ∧ _ ∧ _)
  clear hfull hout hmany hleft hrs hR
  go_enter Tryz.func94, Tryz.ntmps94
  go_wp2_with fail
  refine (fmts_c93 w).mono ?_
  rintro e w1 ⟨rfl, hw1⟩
  have hb1 : Below w.heap.size w w1 := by rw [hw1]; exact below_alloc (below_alloc (Below.refl _ _) _) _
  have hf : Blk w1 (w.heap.size + 1) 49 (nums .i64 [3]).toArray := by
    rw [hw1]
    have := Blk.new (w.alloc (.cells #[] 90)) 49 (nums .i64 [3]).toArray
    simpa using this
  clear hw1 c0 m1
  have HB1 := Aside0.mk hb1
  have HF := Aside0.mk hf
  clear hb1 hf
  go_wp2_with fail
  refine (contains1 w1 (w.heap.size + 1) 3 HF.out).mono ?_
  rintro e w2 ⟨rfl, hb2⟩
  have HB2 := Aside0.mk (HB1.out.trans (hb2.mono HB1.out.size))
  clear hb2
  have hg2 := HG.out.below HB2.out HG.out.lt
  have c0 : w2.cell? ⟨g, 0, none⟩ = some (.iface 90 (.agg #[])) := hg2.cell 0
  have c1 : w2.cell? ⟨g, 1, none⟩ = some (.int .i64 10) := hg2.cell 1
  have hl := run_lk w2 gm (.iface 3 (.int .i64 mg)) ((HB2.out.block gm (blk_lt HM.out)).trans HM.out)
  have ha := run_ta mg
  have m2 := meth2_c93
  clear hg2
  go_wp2_with fail
  refine (HE.out w2).mono ?_
  rintro e w3 ⟨v, rfl, hr, hb3⟩
  obtain ⟨A, c, rfl, hcl, hc⟩ := Kd.R_reads hr
  have HB3 := Aside0.mk (HB2.out.trans (hb3.mono HB2.out.size))
  have HC := Aside0.mk hc
  clear hc hcl hr hb3 c0 c1 hl
  go_wp2_with fail
  obtain ⟨hfull, hout, hmany, hleft, hrs, hR⟩ := HH.out
  refine (render w3 A c code wd mg full out many left rs R HC.out q0 hm0 hm1 h1 hw1 hlc hfull hout hmany hleft hrs hR).mono ?_
  clear hfull hout hmany hleft hrs hR
  rintro e w4 ⟨rfl, hx1, hx2, hb4⟩
  have HX1 := Aside0.mk hx1
  have HX2 := Aside0.mk hx2
  have HB4 := Aside0.mk (HB3.out.trans (hb4.mono HB3.out.size))
  clear hx1 hx2 hb4
  go_wp2
  go_ret2
  exact ⟨_, HB3.out.size, rfl, HX1.out, HX2.out, HB4.out⟩

set_option maxHeartbeats 2000000 in
set_option maxRecDepth 100000 in
theorem encode_c93_no (w : World) (g gm : Nat) (text : ByteArray) (wd mg : Int) 
    (hg : Blk w g 106 #[.iface 90 (.agg #[]), .int .i64 10]) (hm : w.heap[gm]? = some (.map #[⟨.int .i64 5, .iface 3 (.int .i64 mg), 0⟩] 1)) (h0 : 0 < text.size) (h1 : 0 ≤ wd)
    (henc : ∀ W : World, Calls Tryz.prog 147 #[.agg #[], .string text, .map (some gm)] W fun e w' => ∃ v x, e = .returned (.tuple #[v, .iface 141 x]) ∧ Below W.heap.size W w') :
    Calls Tryz.prog 94 #[.pointer (some ⟨g, 0, none⟩), .string text, .int .i64 3, .int .i64 wd, .int .i64 1, .map (some gm)] w fun e w' => (∃ x, e = .returned (.tuple #[.pointer none, .iface 141 x])) ∧ Below w.heap.size w w' := by
  have c0 : w.cell? ⟨g, 0, none⟩ = some (.iface 90 (.agg #[])) := hg.cell 0
  have hlen : ((text.size : Int) == 0) = false := beq_eq_false_iff_ne.mpr (by omega)
  have hwd : decide (wd < 0) = false := decide_eq_false (by omega)
  have m1 := meth1_c93
  have HG := Aside0.mk hg
  have HM := Aside0.mk hm
  have HE := Aside0.mk henc
  clear hg hm henc
  go_enter Tryz.func94, Tryz.ntmps94
  go_wp2_with fail
  refine (fmts_c93 w).mono ?_
  rintro e w1 ⟨rfl, hw1⟩
  have hb1 : Below w.heap.size w w1 := by rw [hw1]; exact below_alloc (below_alloc (Below.refl _ _) _) _
  have hf : Blk w1 (w.heap.size + 1) 49 (nums .i64 [3]).toArray := by
    rw [hw1]
    have := Blk.new (w.alloc (.cells #[] 90)) 49 (nums .i64 [3]).toArray
    simpa using this
  clear hw1 c0 m1
  have HB1 := Aside0.mk hb1
  have HF := Aside0.mk hf
  clear hb1 hf
  go_wp2_with fail
  refine (contains1 w1 (w.heap.size + 1) 3 HF.out).mono ?_
  rintro e w2 ⟨rfl, hb2⟩
  have HB2 := Aside0.mk (HB1.out.trans (hb2.mono HB1.out.size))
  clear hb2
  have hg2 := HG.out.below HB2.out HG.out.lt
  have c0 : w2.cell? ⟨g, 0, none⟩ = some (.iface 90 (.agg #[])) := hg2.cell 0
  have c1 : w2.cell? ⟨g, 1, none⟩ = some (.int .i64 10) := hg2.cell 1
  have hl := run_lk w2 gm (.iface 3 (.int .i64 mg)) ((HB2.out.block gm (blk_lt HM.out)).trans HM.out)
  have ha := run_ta mg
  have m2 := meth2_c93
  clear hg2
  go_wp2_with fail
  refine (HE.out w2).mono ?_
  rintro e w3 ⟨v, x, rfl, hb3⟩
  have HB3 := Aside0.mk (HB2.out.trans (hb3.mono HB2.out.size))
  clear hb3 c0 c1 hl
  go_wp2
  go_ret2
  exact ⟨⟨_, rfl⟩, HB3.out⟩

set_option maxHeartbeats 2000000 in
set_option maxRecDepth 100000 in
theorem odWrite_c93_ok (w : World) (text : ByteArray) (wd mg : Int) (code : List Bool) (full out many left rs : Int) (R OUT : Nat) (h0 : 0 < text.size) (h1 : 0 ≤ wd)
    (q0 : 0 < (code.length : Int) + mg) (hm0 : 0 ≤ mg) (hm1 : mg ≤ 1000) (hw1 : wd ≤ 100000) (hlc : code.length ≤ 100000)
    (hfull : (code.length : Int) + mg = full) (hout : (if full < wd then wd else full) = out) (hmany : out / full = many) (hleft : (out - code.length * many) / 2 = left) (hrs : (out + 31) / 32 = rs) (hR : rs = (R : Int)) (hOUT : out = (OUT : Int))
    (henc : ∀ (gm : Nat) (W : World), Calls Tryz.prog 147 #[.agg #[], .string text, .map (some gm)] W fun e w' => ∃ v, e = .returned (.tuple #[v, .nilIface]) ∧ Kd.R Kd.bool 4 w' W.heap.size (fun _ => True) v code ∧ Below W.heap.size W w') :
    Calls Tryz.prog 15 #[.int .i64 3, .string text, .int .i64 wd, .int .i64 mg] w fun e w' => ∃ b, e = .returned (.tuple #[.slice (some ⟨b, 0, none⟩) OUT OUT, .bool true]) ∧ Blk w' b 4 (bools (unbits (cpy (paint code left many (List.replicate R 0) code.length) (List.replicate R 0) 0 R) OUT)).toArray ∧ Below w.heap.size w w' := by
  have hmm := @run_makeMap Tryz.prog
  have HE := Aside0.mk henc
  clear henc
  have HH := Aside0.mk (⟨hfull, hout, hmany, hleft, hrs, hR, hOUT⟩ : _ ∧ _ ∧ _ ∧ _ ∧ _ ∧ _ ∧ _)
  have hob : 0 ≤ out ∧ out ≤ 200000 := by split at hout <;> omega
  obtain ⟨hob1, hob2⟩ := hob
  clear hfull hout hmany hleft hrs hR hOUT
  go_enter Tryz.func15, Tryz.ntmps15
  go_wp2_with fail
  refine (writer_c93 w).mono ?_
  rintro e w1 ⟨rfl, hw1⟩
  have hi := run_ins w1 (.iface 3 (.int .i64 mg))
  have hq := methE w.heap.size
  have hb1 : Below w.heap.size w w1 := by rw [hw1]; exact below_alloc (Below.refl _ _) _
  have hg : Blk w1 w.heap.size 106 #[.iface 90 (.agg #[]), .int .i64 10] := by rw [hw1]; exact Blk.new _ _ _
  have HB1 := Aside0.mk hb1
  have HG := Aside0.mk hg
  clear hw1 hb1 hg
  go_wp2_with fail
  obtain ⟨hfull, hout, hmany, hleft, hrs, hR, hOUT⟩ := HH.out
  have hma : Below w1.heap.size w1 (w1.alloc (.map #[⟨.int .i64 5, .iface 3 (.int .i64 mg), 0⟩] 1)) := below_alloc (Below.refl _ _) _
  refine (encode_c93_ok _ w.heap.size w1.heap.size text wd mg code full out many left rs R (HG.out.below hma HG.out.lt) (heap_alloc_new _ _) h0 h1 q0 hm0 hm1 hw1 hlc hfull hout hmany hleft hrs hR (HE.out _)).mono ?_
  rintro e w2 ⟨b, hb, rfl, hx1, hx2, hb2⟩
  have hl : (paint code left many (List.replicate R 0) code.length).length = R := by rw [paint_length, List.length_replicate]
  have HX1 := Aside0.mk hx1
  have HX2 := Aside0.mk hx2
  have HB2 := Aside0.mk (HB1.out.trans ((hma.mono HB1.out.size).trans (hb2.mono (Nat.le_trans HB1.out.size hma.size))))
  have HLL := Aside0.mk hl
  clear hfull hout hmany hleft hrs hR hOUT hma hx1 hx2 hb2 hl hi hmm hq hb
  go_wp2_with fail
  obtain ⟨hfull, hout, hmany, hleft, hrs, hR, hOUT⟩ := HH.out
  refine (getRow w2 (b + 1) b out 1 rs 0 _ R R HX2.out HX1.out HLL.out (by omega) hrs hR (by omega) (by omega) (by omega) (by omega) (by omega)).mono ?_
  rintro e w3 ⟨rfl, hy1, hy2, hb3, hsz⟩
  rw [Int.zero_mul] at hy1
  have hl2 : (cpy (paint code left many (List.replicate R 0) code.length) (List.replicate R 0) 0 R).length = R := by rw [cpy_length, List.length_replicate]
  have HY1 := Aside0.mk hy1
  rw [hOUT] at hy2
  have HY2 := Aside0.mk hy2
  have HB3 := Aside0.mk (HB2.out.trans (hb3.mono HB2.out.size))
  have HL2 := Aside0.mk hl2
  have h32 : ((OUT : Int) + 31) / 32 = R := by rw [← hOUT, hrs, hR]
  have H32 := Aside0.mk h32
  have hou : OUT ≤ 200000 := by omega
  clear hfull hout hmany hleft hrs hR hy1 hy2 hb3 hsz hl2 h32 HLL hOUT
  go_wp2_with fail
  refine (toBools w3 _ _ OUT _ R HY2.out HY1.out HL2.out (by have := H32.out; omega) (by omega) H32.out).mono ?_
  rintro e w4 ⟨rfl, hz, hb4⟩
  have HZ := Aside0.mk hz
  have HB4 := Aside0.mk (HB3.out.trans (hb4.mono HB3.out.size))
  clear hz hb4
  go_wp2
  go_ret2
  exact ⟨_, rfl, HZ.out, HB4.out⟩

set_option maxHeartbeats 2000000 in
set_option maxRecDepth 100000 in
theorem odWrite_c93_no (w : World) (text : ByteArray) (wd mg : Int) (h0 : 0 < text.size) (h1 : 0 ≤ wd)
    (henc : ∀ (gm : Nat) (W : World), Calls Tryz.prog 147 #[.agg #[], .string text, .map (some gm)] W fun e w' => ∃ v x, e = .returned (.tuple #[v, .iface 141 x]) ∧ Below W.heap.size W w') :
    Calls Tryz.prog 15 #[.int .i64 3, .string text, .int .i64 wd, .int .i64 mg] w fun e w' => e = .returned (.tuple #[.slice none 0 0, .bool false]) ∧ Below w.heap.size w w' := by
  have hmm := @run_makeMap Tryz.prog
  have HE := Aside0.mk henc
  clear henc
  go_enter Tryz.func15, Tryz.ntmps15
  go_wp2_with fail
  refine (writer_c93 w).mono ?_
  rintro e w1 ⟨rfl, hw1⟩
  have hi := run_ins w1 (.iface 3 (.int .i64 mg))
  have hq := methE w.heap.size
  have hb1 : Below w.heap.size w w1 := by rw [hw1]; exact below_alloc (Below.refl _ _) _
  have hg : Blk w1 w.heap.size 106 #[.iface 90 (.agg #[]), .int .i64 10] := by rw [hw1]; exact Blk.new _ _ _
  have HB1 := Aside0.mk hb1
  have HG := Aside0.mk hg
  clear hw1 hb1 hg
  go_wp2_with fail
  have hma : Below w1.heap.size w1 (w1.alloc (.map #[⟨.int .i64 5, .iface 3 (.int .i64 mg), 0⟩] 1)) := below_alloc (Below.refl _ _) _
  refine (encode_c93_no _ w.heap.size w1.heap.size text wd mg (HG.out.below hma HG.out.lt) (heap_alloc_new _ _) h0 h1 (HE.out _)).mono ?_
  rintro e w2 ⟨⟨x, rfl⟩, hb2⟩
  have HB2 := Aside0.mk (HB1.out.trans ((hma.mono HB1.out.size).trans (hb2.mono (Nat.le_trans HB1.out.size hma.size))))
  clear hma hb2 hi hmm hq
  go_wp2
  go_ret2
  exact ⟨rfl, HB2.out⟩

/-- ODWrite of the format 3: the row of the code. -/
theorem odRowW_c93 (w : World) (text : ByteArray) (wd mg : Int) (code : List Bool) (h0 : 0 < text.size) (h1 : 0 ≤ wd)
    (q0 : 0 < (code.length : Int) + mg) (hm0 : 0 ≤ mg) (hm1 : mg ≤ 1000) (hw1 : wd ≤ 100000) (hlc : code.length ≤ 100000)
    (henc : ∀ (gm : Nat) (W : World), Calls Tryz.prog 147 #[.agg #[], .string text, .map (some gm)] W fun e w' => ∃ v, e = .returned (.tuple #[v, .nilIface]) ∧ Kd.R Kd.bool 4 w' W.heap.size (fun _ => True) v code ∧ Below W.heap.size W w') :
    Calls Tryz.prog 15 #[.int .i64 3, .string text, .int .i64 wd, .int .i64 mg] w fun e w' => ∃ b, e = .returned (.tuple #[.slice (some ⟨b, 0, none⟩) (rowOf code wd mg).length (rowOf code wd mg).length, .bool true]) ∧ Blk w' b 4 (bools (rowOf code wd mg)).toArray ∧ Below w.heap.size w w' := by
  have ho := rOut_ge code wd mg q0 hm1 hw1 hlc
  refine (odWrite_c93_ok w text wd mg code (rFull code mg) (rOut code wd mg) (rMany code wd mg) (rLeft code wd mg) ((rOut code wd mg + 31) / 32) ((rOut code wd mg + 31) / 32).toNat (rOut code wd mg).toNat h0 h1 q0 hm0 hm1 hw1 hlc rfl rfl rfl rfl rfl (by omega) (by omega) henc).mono ?_
  rintro e w' ⟨b, rfl, hb, hw⟩
  rw [row_eqOf code wd mg q0 hm0 hm1 hw1 hlc _ (by omega)] at hb
  exact ⟨b, by rw [rowOf_length], hb, hw⟩

/-! ### The law of what is refused -/
theorem bytesOf_extR (s : ByteArray) (a c : Nat) : bytesOf (s.extract a c) = ((bytesOf s).drop a).take (c - a) := by
  unfold bytesOf
  rw [Lib.extract_data, ← List.map_drop, ← List.map_take]
theorem bytesOf_appR (a b : ByteArray) : bytesOf (a ++ b) = bytesOf a ++ bytesOf b := by
  unfold bytesOf; rw [ba_append, List.map_append]
theorem bytesOf_strR (xs : List Int) (h : ∀ x ∈ xs, 0 ≤ x ∧ x < 256) : bytesOf (strOfNums xs) = xs := by
  unfold bytesOf strOfNums
  simp only [List.map_map]
  conv => rhs; rw [← List.map_id xs]
  apply List.map_congr_left
  intro x hx
  have := h x hx
  show ((UInt8.ofNat x.toNat).toNat : Int) = x
  have e : (UInt8.ofNat x.toNat).toNat = x.toNat % 256 := rfl
  rw [e]; omega
/-- A text of digits with something between. -/
theorem between (D : ByteArray) (n k : Nat) (hn : D.size = n) (hk : k ≤ n) (hd : ∀ i : Nat, i < n → 48 ≤ bt D i ∧ bt D i ≤ 57) (xs : List Int) (hx : ∀ x ∈ xs, 0 ≤ x ∧ x < 256) (h0 : 0 < xs.length) :
    (D.extract 0 k ++ strOfNums xs ++ D.extract k D.size).size = n + xs.length ∧ (∀ i : Nat, i < k → 48 ≤ bt (D.extract 0 k ++ strOfNums xs ++ D.extract k D.size) i ∧ bt (D.extract 0 k ++ strOfNums xs ++ D.extract k D.size) i ≤ 57) ∧
      bt (D.extract 0 k ++ strOfNums xs ++ D.extract k D.size) k = xs.getD 0 0 := by
  have hb : bytesOf (D.extract 0 k ++ strOfNums xs ++ D.extract k D.size) = (bytesOf D).take k ++ (xs ++ (bytesOf D).drop k) := by
    rw [bytesOf_appR, bytesOf_appR, bytesOf_extR, bytesOf_extR, bytesOf_strR xs hx, List.drop_zero, Nat.sub_zero, List.append_assoc]
    congr 2
    rw [List.take_of_length_le (by rw [List.length_drop, bytesOf_length]; omega)]
  have hbl : (bytesOf D).length = n := by rw [bytesOf_length, hn]
  have htl : ((bytesOf D).take k).length = k := by rw [List.length_take, hbl]; omega
  refine ⟨?_, fun i hi => ?_, ?_⟩
  · rw [← bytesOf_length, hb, List.length_append, List.length_append, htl, List.length_drop, hbl]; omega
  · rw [← rd_bytesOf, hb]
    have e : rd ((bytesOf D).take k ++ (xs ++ (bytesOf D).drop k)) (i : Int) = bt D i := by
      rw [← rd_bytesOf]
      unfold rd
      rw [Int.toNat_natCast, List.getD_eq_getElem?_getD, List.getD_eq_getElem?_getD, List.getElem?_append_left (by omega), List.getElem?_take_of_lt hi]
    rw [e]
    exact hd i (by omega)
  · rw [← rd_bytesOf, hb]
    unfold rd
    rw [Int.toNat_natCast, List.getD_eq_getElem?_getD, List.getD_eq_getElem?_getD, List.getElem?_append_right (by omega), htl, Nat.sub_self, List.getElem?_append_left (by omega)]
theorem dig39 (t : ByteArray) (ds : List Nat) (h : IsDigits t ds) : Is39 t ds := by
  refine ⟨?_, fun n hn => by have := h.2 n hn; omega⟩
  rw [h.1]
  apply List.map_congr_left
  intro d hd
  have : ∀ n : Fin 10, UInt8.ofNat (48 + n.val) = sg39.data.toList.getD n.val 0 := by decide +kernel
  exact this ⟨d, h.2 d hd⟩
theorem digits_snoc (t : ByteArray) (ds : List Nat) (h : IsDigits t ds) (c : Nat) (hc : c < 10) (b : UInt8) (hb : b = UInt8.ofNat (48 + c)) : IsDigits (t ++ ⟨#[b]⟩) (ds ++ [c]) := by
  refine ⟨?_, fun n hn => ?_⟩
  · rw [ba_append, h.1, List.map_append, hb]; rfl
  · rcases List.mem_append.1 hn with h1 | h1
    · exact h.2 n h1
    · obtain rfl := List.mem_singleton.1 h1; exact hc
theorem digits_bt (t : ByteArray) (ds : List Nat) (h : IsDigits t ds) (i : Nat) (hi : i < t.size) : 48 ≤ bt t i ∧ bt t i ≤ 57 := by
  obtain ⟨h1, h2⟩ := bt_dig h i hi
  omega
theorem ten_digits (l : List Int) (most : Nat) (hl : ∀ v ∈ l, 0 ≤ v ∧ v ≤ 255) : IsDigits ⟨(some_ tenSigns l most).toArray⟩ ((l.take most).map fun v => (v % 10).toNat) := by
  refine ⟨?_, fun n hn => ?_⟩
  · unfold some_
    simp only [List.map_map]
    refine List.map_congr_left fun v hv => ?_
    have hv2 := hl v (List.mem_of_mem_take hv)
    have : ∀ q : Fin 10, tenSigns.data.toList.getD (q : Nat) 0 = UInt8.ofNat (48 + (q : Nat)) := by decide +kernel
    exact this ⟨(v % 10).toNat, by omega⟩
  · obtain ⟨v, _, rfl⟩ := List.mem_map.1 hn
    omega
theorem conv_new (xs : List Int) (hl : xs.length ≤ 100) (W : World) : (Go.convert 22 9 (.slice (some ⟨W.heap.size, 0, none⟩) xs.length xs.length)).run Tryz.prog (W.alloc (.cells (nums .u8 xs).toArray 5)) = .ok (.string (strOfNums xs)) (W.alloc (.cells (nums .u8 xs).toArray 5)) :=
  own_string (P := Tryz.prog) Tryz.underlying22 Tryz.underlying5 Tryz.underlying9 (own_lit W W.heap.size 5 .u8 xs (Nat.le_refl _) (by omega))
set_option maxHeartbeats 4000000 in
set_option maxRecDepth 100000 in
theorem lawRef (w : World) (A : Option Addr) (c : Nat) (l : List Int) (a b : Int) (hl : ∀ v ∈ l, 0 ≤ v ∧ v ≤ 255) (hC : Kd.C (Kd.int .u8) w A l.length l) (hc : l.length ≤ c) (hlen : l.length ≤ 9223372036854775807) (ha : 0 ≤ a ∧ a ≤ 255) (hb : 0 ≤ b ∧ b ≤ 255)
   (hz : l.length ≤ 2147483647) :
    Calls Tryz.prog 8 #[.slice A l.length c, .int .u8 a, .int .u8 b] w fun e w' => e = .returned (.bool true) ∧ Below w.heap.size w w' := by
  have HC := Aside0.mk hC
  have HL := Aside0.mk hl
  have hzz : decide ((2147483647 : Int) < (l.length : Int)) = false := decide_eq_false (by omega)
  obtain ⟨ha0, ha1⟩ := ha
  obtain ⟨hb0, hb1⟩ := hb
  clear hC hl hz hlen
  go_enter Tryz.func8, Tryz.ntmps8
  go_wp2_with fail
  refine (odSome w tenSigns A c l 30 (by decide) (by decide) (by omega) HL.out HC.out hc).mono ?_
  rintro e w1 ⟨rfl, hb1'⟩
  have HB1 := Aside0.mk hb1'
  clear hb1'
  obtain ⟨D, hD⟩ : ∃ t : ByteArray, (⟨(some_ tenSigns l 30).toArray⟩ : ByteArray) = t := ⟨_, rfl⟩
  rw [hD]
  have hID := ten_digits l 30 HL.out
  rw [hD] at hID
  obtain ⟨ds, hds⟩ : ∃ ds, ((l.take 30).map fun v => (v % 10).toNat) = ds := ⟨_, rfl⟩
  rw [hds] at hID
  obtain ⟨n, hn⟩ : ∃ n, D.size = n := ⟨_, rfl⟩
  have hdn : ds.length = n := by rw [← hn, ← data_length, hID.1, List.length_map]
  have HID := Aside0.mk hID
  have HDN := Aside0.mk hdn
  have hn30 : n ≤ 30 := by rw [← hn, ← hD, ← data_length]; simp [some_]; omega
  have hsI : (D.size : Int) = (n : Int) := by omega
  obtain ⟨k, hk⟩ : ∃ k : Nat, b % ((n : Int) + 1) = (k : Int) := ⟨(b % ((n : Int) + 1)).toNat, by have := Int.emod_nonneg b (show ((n : Int) + 1) ≠ 0 by omega); omega⟩
  have hkn : k ≤ n := by have := Int.emod_lt_of_pos b (show 0 < (n : Int) + 1 by omega); omega
  have HD := Aside0.mk hD
  have HN := Aside0.mk hn
  obtain ⟨x, hx⟩ : ∃ x, 128 + a % 64 = x := ⟨_, rfl⟩
  obtain ⟨y, hy⟩ : ∃ y, 58 + a % 60 = y := ⟨_, rfl⟩
  have hx0 : 128 ≤ x ∧ x ≤ 191 := by omega
  have hy0 : 58 ≤ y ∧ y ≤ 117 := by omega
  have cx : ∀ W : World, (Go.convert 22 9 (.slice (some ⟨W.heap.size, 0, none⟩) 2 2)).run Tryz.prog (W.alloc (.cells #[.int .u8 195, .int .u8 x] 5)) = .ok (.string (strOfNums [195, x])) (W.alloc (.cells #[.int .u8 195, .int .u8 x] 5)) := fun W => conv_new [195, x] (by simp) W
  have cxd : ∀ W : World, (Go.convert 22 9 (.slice (some ⟨W.heap.size, 0, none⟩) 2 2)).run Tryz.prog (W.alloc (.cells #[.int .u8 195, .int .u8 x] 5)).drew = .ok (.string (strOfNums [195, x])) (W.alloc (.cells #[.int .u8 195, .int .u8 x] 5)).drew := fun W => conv_new [195, x] (by simp) W.drew
  have cy : ∀ W : World, (Go.convert 22 9 (.slice (some ⟨W.heap.size, 0, none⟩) 1 1)).run Tryz.prog (W.alloc (.cells #[.int .u8 y] 5)) = .ok (.string (strOfNums [y])) (W.alloc (.cells #[.int .u8 y] 5)) := fun W => conv_new [y] (by simp) W
  have cyd : ∀ W : World, (Go.convert 22 9 (.slice (some ⟨W.heap.size, 0, none⟩) 1 1)).run Tryz.prog (W.alloc (.cells #[.int .u8 y] 5)).drew = .ok (.string (strOfNums [y])) (W.alloc (.cells #[.int .u8 y] 5)).drew := fun W => conv_new [y] (by simp) W.drew
  have l1 : (D.extract 0 k).size = k := by rw [ByteArray.size_extract]; omega
  have l2' : (D.extract k D.size).size = n - k := by rw [ByteArray.size_extract]; omega
  have l2 : (D.extract k n).size = n - k := by rw [ByteArray.size_extract]; omega
  have l3 : (strOfNums [195, x]).size = 2 := by rw [← data_length]; rfl
  have l4 : (strOfNums [y]).size = 1 := by rw [← data_length]; rfl
  obtain ⟨m1, m2, m3⟩ := between D n k hn hkn (fun i hi => digits_bt D ds hID i (by omega)) [195, x] (by intro z hz; simp at hz; omega) (by simp)
  obtain ⟨s1, s2, s3⟩ := between D n k hn hkn (fun i hi => digits_bt D ds hID i (by omega)) [y] (by intro z hz; simp at hz; omega) (by simp)
  obtain ⟨H, hH⟩ : ∃ H, D.extract 0 k ++ strOfNums [195, x] ++ D.extract k D.size = H := ⟨_, rfl⟩
  obtain ⟨Y, hY⟩ : ∃ Y, D.extract 0 k ++ strOfNums [y] ++ D.extract k D.size = Y := ⟨_, rfl⟩
  rw [hH] at m1 m2 m3
  rw [hY] at s1 s2 s3
  have HHH := Aside0.mk hH
  have HYY := Aside0.mk hY
  have PA := Aside0.mk (fun W : World => odWrite_c39_no W H 0 20 (by simp at m1; omega) (by omega) (fun gm W' => enc39_no W' (.map (some gm)) H k (by simp at m1; omega) (by simp at m1; omega) m2 m3))
  have PB := Aside0.mk (fun W : World => odWrite_c93_no W H 0 20 (by simp at m1; omega) (by omega) (fun gm W' => enc93_no W' (.map (some gm)) H k (by simp at m1; omega) (by simp at m1; omega) m2 m3))
  have PC := Aside0.mk (fun W : World => odWrite_itf_no W Y 0 20 (by simp at s1; omega) (by omega) (fun gm W' => (show Calls Tryz.prog 171 #[.agg #[], .string Y, .map (some gm)] W' fun e w' => ∃ v x, e = .returned (.tuple #[v, .iface 141 x]) ∧ Below W'.heap.size W' w' from by
    simp at s1
    rcases Nat.mod_two_eq_zero_or_one (n + 1) with h | h
    · exact encItf_sign W' _ Y ((n + 1) / 2) k (by omega) (by omega) (by omega) s2 (by rw [s3]; right; show 57 < y; omega)
    · exact encItf_odd W' _ Y ((n + 1) / 2) (by omega) (by omega))))
  have hU : ∃ (U : ByteArray) (us : List Nat) (q : Nat), IsDigits U us ∧ us.length = 2 * q + 1 ∧ q ≤ 16 ∧ (n % 2 = 0 → D ++ ⟨#[49]⟩ = U) ∧ (n % 2 = 1 → D ++ ⟨#[49]⟩ ++ ⟨#[50]⟩ = U) := by
    have h1 := digits_snoc D ds hID 1 (by omega) 49 rfl
    rcases Nat.mod_two_eq_zero_or_one n with h | h
    · exact ⟨_, _, n / 2, h1, by simp; omega, by omega, fun _ => rfl, fun h' => by omega⟩
    · exact ⟨_, _, (n + 1) / 2, digits_snoc _ _ h1 2 (by omega) 50 rfl, by simp; omega, by omega, fun h' => by omega, fun _ => rfl⟩
  obtain ⟨U, us, q, hus, hul, hq, hu1, hu2⟩ := hU
  have hUs : U.size = 2 * q + 1 := by rw [← data_length, hus.1, List.length_map, hul]
  have PD := Aside0.mk (fun W : World => odWrite_itf_no W U 0 20 (by omega) (by omega) (fun gm W' => encItf_odd W' (.map (some gm)) U q hUs (by omega)))
  have hu0 := digits_snoc U us hus 0 (by omega) 48 rfl
  have hcl := itfCode_len (us ++ [0]) hu0.2 (q + 1) (by simp; omega) (by omega)
  have hU0 : (U ++ ⟨#[48]⟩).size = U.size + 1 := by rw [ByteArray.size_append]; rfl
  have PE := Aside0.mk (fun W : World => odRowW_itf W (U ++ ⟨#[48]⟩) 0 20 (itfCode (us ++ [0])) (by omega) (by omega) (by omega) (by omega) (by omega) (by omega) (by omega) (fun gm W' => encItf W' (.map (some gm)) (U ++ ⟨#[48]⟩) (us ++ [0]) (q + 1) (by simp; omega) (by omega) hu0))
  have hc39 : (code39 us).length ≤ 1000 := by
    unfold code39
    rw [List.length_append, List.length_append, List.length_append, star39_length, body39_length _ (dig39 U us hus).2, hul]
    simp; omega
  have PG := Aside0.mk (fun W : World => odRowW_c39 W U 0 20 (code39 us) (by omega) (by omega) (by omega) (by omega) (by omega) (by omega) (by omega) (fun gm W' => enc39_calls W' (.map (some gm)) U us (2 * q + 1) hul (by omega) (dig39 U us hus)))
  have HUS := Aside0.mk hUs
  have HU1 := Aside0.mk hu1
  have HU2 := Aside0.mk hu2
  obtain ⟨C1, hC1⟩ : ∃ x, itfCode (us ++ [0]) = x := ⟨_, rfl⟩
  obtain ⟨C2, hC2⟩ : ∃ x, code39 us = x := ⟨_, rfl⟩
  rw [hC1] at PE
  rw [hC2] at PG
  have c9 : D.size + 1 ≤ 9223372036854775807 := by omega
  have c9b0 := eq_true c9
  have c9b1 : decide (D.size + 1 ≤ 9223372036854775807) = true := decide_eq_true c9
  have c9b2 : (9223372036854775807 < D.size + 1) = False := eq_false (Nat.not_lt.2 c9)
  have c8 : D.size + 1 + 1 ≤ 9223372036854775807 := by omega
  have c8b0 := eq_true c8
  have c8b1 : decide (D.size + 1 + 1 ≤ 9223372036854775807) = true := decide_eq_true c8
  have c8b2 : (9223372036854775807 < D.size + 1 + 1) = False := eq_false (Nat.not_lt.2 c8)
  clear hD hn hID hds hdn m1 m2 m3 s1 s2 s3 hH hY hus hul hu1 hu2 hu0 hcl hc39 hC1 hC2 hU0
  go_wp2_with fail
  rw [hk]
  have k1 : IntKind.u8.wrap (128 + Int.tmod a 64) = x := by rw [Int.tmod_eq_emod_of_nonneg ha0, hx]; exact IntWalk.u8_in _ (by omega)
  have k1' : IntKind.u8.wrap (58 + Int.tmod a 60) = y := by rw [Int.tmod_eq_emod_of_nonneg ha0, hy]; exact IntWalk.u8_in _ (by omega)
  have k2 : (k : Int) ≤ (n : Int) := by omega
  have k3 : (0 : Int) ≤ (k : Int) := by omega
  go_region_with (fail)
  obtain ⟨w2, hw2⟩ : ∃ w2, (w1.alloc (.cells #[.int .u8 195, .int .u8 x] 5)).drew = w2 := ⟨_, rfl⟩
  have HB2 := Aside0.mk (HB1.out.trans ((show Below w1.heap.size w1 w2 by rw [← hw2]; exact below_drew (below_alloc (Below.refl _ _) _)).mono HB1.out.size))
  simp only [hw2]
  clear hw2
  go_wp2_with fail
  go_region_with (fail)
  obtain ⟨w3, hw3⟩ : ∃ w3, (w2.alloc (.cells #[.int .u8 y] 5)).drew = w3 := ⟨_, rfl⟩
  have HB3 := Aside0.mk (HB2.out.trans ((show Below w2.heap.size w2 w3 by rw [← hw3]; exact below_drew (below_alloc (Below.refl _ _) _)).mono HB2.out.size))
  simp only [hw3]
  clear hw3
  rw [HHH.out, HYY.out]
  clear k1 k1' cx cxd cy cyd l1 l2 l2' l3 l4
  have hpar : ((((n : Int) + 1) % 2 == 0) = false ∧ D ++ ⟨#[49]⟩ = U) ∨ ((((n : Int) + 1) % 2 == 0) = true ∧ D ++ ⟨#[49]⟩ ++ ⟨#[50]⟩ = U) := by
    rcases Nat.mod_two_eq_zero_or_one n with h | h
    · exact .inl ⟨beq_eq_false_iff_ne.2 (by omega), HU1.out h⟩
    · exact .inr ⟨beq_iff_eq.2 (by omega), HU2.out h⟩
  clear HU1 HU2
  rcases hpar with ⟨hpp, hue⟩ | ⟨hpp, hue⟩
  all_goals
    have HUE := Aside0.mk hue
    clear hue
    go_wp2_with fail
    rw [HUE.out]
    refine (PA.out _).mono ?_
    rintro e w4 ⟨rfl, hb4⟩
    have HB4 := Aside0.mk (HB3.out.trans (hb4.mono HB3.out.size))
    clear hb4 HB3 hpp c9 c9b0 c9b1 c9b2 c8 c8b0 c8b1 c8b2 hsI
    have hsU : (U.size : Int) = 2 * (q : Int) + 1 := by have := HUS.out; omega
    have d9 : U.size + 1 ≤ 9223372036854775807 := by have := HUS.out; omega
    have d9b0 := eq_true d9
    have d9b1 : decide (U.size + 1 ≤ 9223372036854775807) = true := decide_eq_true d9
    have d9b2 : (9223372036854775807 < U.size + 1) = False := eq_false (Nat.not_lt.2 d9)
    go_wp2_with fail
    refine (PB.out _).mono ?_
    rintro e w5 ⟨rfl, hb5⟩
    have HB5 := Aside0.mk (HB4.out.trans (hb5.mono HB4.out.size))
    clear hb5 HB4
    go_wp2_with fail
    refine (PC.out _).mono ?_
    rintro e w6 ⟨rfl, hb6⟩
    have HB6 := Aside0.mk (HB5.out.trans (hb6.mono HB5.out.size))
    clear hb6 HB5
    go_wp2_with fail
    refine (PD.out _).mono ?_
    rintro e w7 ⟨rfl, hb7⟩
    have HB7 := Aside0.mk (HB6.out.trans (hb7.mono HB6.out.size))
    clear hb7 HB6
    go_wp2_with fail
    refine (PE.out _).mono ?_
    rintro e w8 ⟨b8, rfl, _, hb8⟩
    have HB8 := Aside0.mk (HB7.out.trans (hb8.mono HB7.out.size))
    clear hb8 HB7
    go_wp2_with fail
    refine (PG.out _).mono ?_
    rintro e w9 ⟨b9, rfl, _, hb9⟩
    have HB9 := Aside0.mk (HB8.out.trans (hb9.mono HB8.out.size))
    clear hb9 HB8
    go_wp2
    go_ret
    exact ⟨rfl, HB9.out⟩
theorem walkRef (w : World) (a0 : Option Addr) (len0 cap0 : Nat) (z0 : List Int) (a b : Int) (w0 : (a0 = none ∧ len0 = 0 ∧ cap0 = 0 ∧ z0 = []) ∨ ∃ x, a0 = some x ∧ len0 ≤ cap0 ∧ cap0 ≤ maxLen ∧ z0.length = cap0 ∧ (∀ i, i < z0.length → w.cell? (x.add i) = some (.int .u8 (z0.getD i 0))) ∧ ∀ n ∈ z0, (Lit.int .u8 n).wf = true)
    (wa : (Lit.int .u8 a).wf = true) (wb : (Lit.int .u8 b).wf = true) :
    Calls Tryz.prog 8 #[.slice a0 len0 cap0, .int .u8 a, .int .u8 b] w fun e w' => e = .returned (.bool true) ∧ Below w.heap.size w w' := by
  obtain ⟨l, rfl, hr, hm, hw, hc⟩ := ReadsInt.ofRowC w0
  have hC := (Kd.C_of_reads (d := (0 : Int)) (h1 := fun _ => rfl) hr : Kd.C (Kd.int .u8) w a0 l.length l)
  by_cases hz : l.length ≤ 2147483647
  · exact lawRef w a0 cap0 l a b (wf_bytes hw) hC hc (by unfold maxLen at hm; omega) (wf_u8 wa) (wf_u8 wb) hz
  · have hzz : decide ((2147483647 : Int) < (l.length : Int)) = true := decide_eq_true (by omega)
    clear hC hr hz w0
    go_enter Tryz.func8, Tryz.ntmps8
    go_wp2
    go_ret
    exact ⟨rfl, Below.refl _ _⟩
end Go.Proofs.YthkddnmomjcdaaaGreat.B
