import Derived.Test.YthkddnmomjcdaaaGreatJ1
namespace Go.Proofs.YthkddnmomjcdaaaGreat.B
open Go.RowKit Go.Proofs.YthkddnmomjcdaaaGreatW.PrintWords Go.Proofs.YthkddnmomjcdaaaGreatW.PrintLast Go.Proofs.YthkddnmomjcdaaaGreatW.PrintMore
set_option linter.unusedVariables false
set_option linter.unusedSimpArgs false

/-! ### The encoder of EAN-8 -/
def pre8 (t : ByteArray) (i : Nat) : List Bool := bars true [1, 1, 1] ++ digs_ t 0 false i
def mid8 (t : ByteArray) (i : Nat) : List Bool := pre8 t 4 ++ bars false [1, 1, 1, 1, 1] ++ digs_ t 4 true i
def code8 (t : ByteArray) : List Bool := mid8 t 4 ++ bars true [1, 1, 1]
theorem pre8_length (t : ByteArray) (h : AllDig t 8) (i : Nat) (hi : i ≤ 4) : (pre8 t i).length = 3 + 7 * i := by
  unfold pre8
  rw [List.length_append, digs_length _ _ _ _ (fun k hk => h _ (by omega))]
  rfl
theorem mid8_length (t : ByteArray) (h : AllDig t 8) (i : Nat) (hi : i ≤ 4) : (mid8 t i).length = 36 + 7 * i := by
  unfold mid8
  rw [List.length_append, List.length_append, digs_length _ _ _ _ (fun k hk => h _ (by omega)), pre8_length t h 4 (by omega)]
  have : (bars false [1, 1, 1, 1, 1]).length = 5 := rfl
  omega
theorem code8_length (t : ByteArray) (h : AllDig t 8) : (code8 t).length = 67 := by
  unfold code8
  rw [List.length_append, mid8_length t h 4 (by omega)]
  rfl
def z67 : List Bool := List.replicate 67 false
theorem z67_length : z67.length = 67 := by simp [z67]
theorem make_67 (w : World) : (Instr.makeSlice 27 (.int .i64 67) (.int .i64 67)).run Tryz.prog w = .ok (.slice (some ⟨w.heap.size, 0, none⟩) 67 67) (w.alloc (.cells (bools z67).toArray 4)) := make_bool 67 (by omega) w
/-- The text that is written: with its check digit. -/
def Full (s : ByteArray) (m : Nat) (t : ByteArray) : Prop := (s.size = m ∧ AllDig s m ∧ t = ckText s m) ∨ (s.size = m + 1 ∧ AllDig s (m + 1) ∧ dgt s m = chk s m ∧ t = s)
theorem Full.size {s t : ByteArray} {m : Nat} (h : Full s m t) : t.size = m + 1 := by
  rcases h with ⟨h1, h2, rfl⟩ | ⟨h1, h2, h3, rfl⟩
  · exact ckText_size s m (by omega)
  · exact h1
theorem Full.all {s t : ByteArray} {m : Nat} (h : Full s m t) : AllDig t (m + 1) := by
  rcases h with ⟨h1, h2, rfl⟩ | ⟨h1, h2, h3, rfl⟩
  · exact ckText_all s m (by omega) h2
  · exact h2

set_option maxHeartbeats 4000000 in
set_option maxRecDepth 100000 in
theorem enc8_ok (w : World) (mv : Value) (s t : ByteArray) (h : Full s 7 t) :
    Calls Tryz.prog 158 #[.agg #[], .string s, mv] w fun e w' => ∃ v, e = .returned (.tuple #[v, .nilIface]) ∧ Kd.R Kd.bool 4 w' w.heap.size (fun _ => True) v (code8 t) ∧ Below w.heap.size w w' := by
  have HTS := Aside0.mk h.size
  have HTA := Aside0.mk h.all
  have hmk := make_67
  have hsplit : (∃ (e : (s.size : Int) = 7), AllDig s 7 ∧ t = ckText s 7) ∨ (∃ (e : (s.size : Int) = 8), AllDig s 7 ∧ dgt s 7 = chk s 7 ∧ t = s) := by
    rcases h with ⟨h1, h2, h3⟩ | ⟨h1, h2, h3, h4⟩
    · exact .inl ⟨by omega, h2, h3⟩
    · exact .inr ⟨by omega, fun i hi => h2 i (by omega), h3, h4⟩
  clear h
  rcases hsplit with ⟨hsI, hd, ht⟩ | ⟨hsI, hd, hck, ht⟩
  · have HD := Aside0.mk hd
    have HT := Aside0.mk ht
    have HS := Aside0.mk (show s.size = 7 by omega)
    clear hd ht
    go_enter Tryz.func158, Tryz.ntmps158
    go_wp2_with fail
    refine (ck160 _ s 7 HS.out (by omega)).mono ?_
    rintro e w1 ⟨hp, hb⟩
    have he : e = .returned (.tuple #[.int .i64 (chk s 7), .nilIface]) := by
      rcases hp with ⟨_, h⟩ | ⟨h, _⟩
      · exact h
      · exact absurd HD.out h
    subst he
    have HB1 := Aside0.mk ((below_alloc (Below.refl _ w) (.cells #[] 92)).trans (hb.mono (by simp)))
    clear hp hb
    go_wp2_with fail
    refine (itoaCk _ s 7).mono ?_
    obtain ⟨ck, hck⟩ : ∃ x : ByteArray, (⟨#[UInt8.ofNat (48 + chk s 7).toNat]⟩ : ByteArray) = x := ⟨_, rfl⟩
    have hcs : ck.size = 1 := by rw [← hck]; rfl
    have c9 : s.size + ck.size ≤ 9223372036854775807 := by omega
    have c9b0 := eq_true c9
    have c9b1 : decide (s.size + ck.size ≤ 9223372036854775807) = true := decide_eq_true c9
    have c9b2 : (9223372036854775807 < s.size + ck.size) = False := eq_false (Nat.not_lt.2 c9)
    have HTT := Aside0.mk (show s ++ ck = t by rw [HT.out]; unfold ckText; rw [own_all s 7 HS.out, hck])
    rw [hck]
    rintro e wz ⟨rfl, hb⟩
    have HBZ := Aside0.mk (HB1.out.trans (hb.mono HB1.out.size))
    clear hb HB1 hck hcs
    go_wp2_with fail
    rw [HTT.out]
    clear c9 c9b0 c9b1 c9b2 hsI
    refine (numeric _ t (by have := HTS.out; omega) t.size (Nat.le_refl _) (isDig_all t 8 HTS.out HTA.out) (fun h => absurd h (Nat.lt_irrefl _))).mono ?_
    rintro e w2 ⟨v, rfl, hv, hb2⟩
    obtain rfl : v = .nilIface := by unfold NumPost at hv; rw [if_pos rfl] at hv; exact hv
    have HB2 := Aside0.mk (HBZ.out.trans (hb2.mono HBZ.out.size))
    clear hv hb2 HBZ
    go_wp2_with fail
    obtain ⟨gt, hgt⟩ : ∃ gt, w2.heap.size = gt := ⟨_, rfl⟩
    obtain ⟨w3, hw3⟩ : ∃ w3, w2.alloc (.cells (bools z67).toArray 4) = w3 := ⟨_, rfl⟩
    have hbk : Blk w3 gt 4 (bools (put z67 [])).toArray := by rw [← hw3, ← hgt, put_nil]; exact Blk.new _ _ _
    have hb3 : Below w.heap.size w w3 := by rw [← hw3]; exact HB2.out.trans ((below_alloc (Below.refl _ w2) _).mono HB2.out.size)
    have hge : w.heap.size ≤ gt := by rw [← hgt]; exact HB2.out.size
    have HB3 := Aside0.mk hb3
    have HBK := Aside0.mk hbk
    simp only [hw3, hgt]
    clear hb3 hbk hw3 hgt HB2 hmk
    refine (pat163 _).mono ?_
    rintro e w4 ⟨A4, c4, rfl, hc4, hC4, hb4⟩
    have HBK4 := Aside0.mk (HBK.out.below hb4 HBK.out.lt)
    have HB4 := Aside0.mk (HB3.out.trans (hb4.mono HB3.out.size))
    have HC4 := Aside0.mk hC4
    clear hb4 hC4 HBK HB3
    go_wp2_with fail
    refine (appendPat' w4 gt 67 z67 [] A4 c4 [1, 1, 1] true 0 3 rfl rfl HBK4.out z67_length (by omega) (by omega) 3 rfl HC4.out hc4 (by decide) (by omega) (by omega)).mono ?_
    rintro e w5 ⟨rfl, hx, hu⟩
    have HX5 := Aside0.mk hx
    have HB5 := Aside0.mk (HB4.out.trans (hu.below hge HB4.out.size))
    clear hx hu HBK4 HB4 HC4 hc4
    go_wp2
    go_loopw [15, 16] (fun pv v wr => ∃ i : Nat, i ≤ 4 ∧ v = .int .i64 i ∧ pv = .int .i64 (3 + 7 * (i : Int)) ∧ Aside0 (Blk wr gt 4 (bools (put z67 (pre8 t i))).toArray) ∧ Aside0 (Below w.heap.size w wr)) (fun _ v _ => 4 - (intOf v).toNat)
    case atStart => exact ⟨0, by omega, rfl, rfl, ⟨by have := HX5.out; simpa [pre8, digs_] using this⟩, HB5⟩
    case round =>
      obtain ⟨i, hi, rfl, rfl, HX, HB⟩ := hrel
      clear HX5 HB5
      by_cases hlt : i < 4
      · have d1 : decide ((i : Int) ≤ 3) = true := decide_eq_true (by omega)
        have hit : i < t.size := by have := HTS.out; omega
        obtain ⟨b, hbt, hb48, hb57, hbd⟩ := dgt_at t 8 HTS.out HTA.out i (by omega) hit
        have HBD := Aside0.mk hbd
        clear hbd
        go_wp2_with fail
        refine (pats164 _ (b - 48) (by omega) (by omega)).mono ?_
        rintro e w6 ⟨ad, c6, A6, c7, rfl, hcell, hc7, hC7, hb6⟩
        have HX6 := Aside0.mk (HX.out.below hb6 HX.out.lt)
        have HB6 := Aside0.mk (HB.out.trans (hb6.mono HB.out.size))
        have HC7 := Aside0.mk hC7
        clear hC7 hb6 HX HB
        go_wp2_with fail
        obtain ⟨l1, l2, l3⟩ := lp_facts (b - 48) (by omega) (by omega)
        have hpl := pre8_length t HTA.out i (by omega)
        refine (appendPat' w6 gt 67 z67 (pre8 t i) A6 c7 (lp (b - 48)) false (3 + 7 * (i : Int)) 7 (by rw [hpl]; omega) (by rw [l3 false]; rfl) HX6.out z67_length (by omega) (by omega) 4 l1 HC7.out hc7 l2 (by omega) (by omega)).mono ?_
        rintro e w7 ⟨rfl, hx, hu⟩
        have HX7 := Aside0.mk hx
        have HB7 := Aside0.mk (HB6.out.trans (hu.below hge HB6.out.size))
        clear hx hu HX6 HB6 HC7 hcell l1 l2 l3 hpl
        go_wp2
        go_roundw
        case rel => exact ⟨i + 1, by omega, by go_num, by go_num, ⟨by
          have := HX7.out
          rw [show pre8 t (i + 1) = pre8 t i ++ bars false (lp (b - 48)) by unfold pre8; rw [digs_next, Nat.zero_add, HBD.out, List.append_assoc]]
          exact this⟩, HB7⟩
        case measure => simp [intOf]; omega
      · obtain rfl : i = 4 := by omega
        go_wp2_with fail
        refine (pat165 _).mono ?_
        rintro e w4 ⟨A4, c4, rfl, hc4, hC4, hb4⟩
        have HX4 := Aside0.mk (HX.out.below hb4 HX.out.lt)
        have HB4 := Aside0.mk (HB.out.trans (hb4.mono HB.out.size))
        have HC4 := Aside0.mk hC4
        clear hb4 hC4 HX HB
        go_wp2_with fail
        have hpl := pre8_length t HTA.out 4 (by omega)
        refine (appendPat' w4 gt 67 z67 (pre8 t 4) A4 c4 [1, 1, 1, 1, 1] false 31 5 (by rw [hpl]; rfl) rfl HX4.out z67_length (by omega) (by omega) 5 rfl HC4.out hc4 (by decide) (by omega) (by omega)).mono ?_
        rintro e w5 ⟨rfl, hx, hu⟩
        have HX5 := Aside0.mk hx
        have HB5 := Aside0.mk (HB4.out.trans (hu.below hge HB4.out.size))
        clear hx hu HX4 HB4 HC4 hc4 hpl hlt hi
        go_wp2
        go_loopw [15, 18] (fun pv v wr => ∃ i : Nat, i ≤ 4 ∧ v = .int .i64 (4 + (i : Int)) ∧ pv = .int .i64 (36 + 7 * (i : Int)) ∧ Aside0 (Blk wr gt 4 (bools (put z67 (mid8 t i))).toArray) ∧ Aside0 (Below w.heap.size w wr)) (fun _ v _ => 8 - (intOf v).toNat)
        case atStart => exact ⟨0, by omega, rfl, rfl, ⟨by have := HX5.out; simpa [mid8, digs_] using this⟩, HB5⟩
        case round =>
          obtain ⟨i, hi, rfl, rfl, HX, HB⟩ := hrel
          clear HX5 HB5
          by_cases hlt : i < 4
          · have d1 : decide (4 + (i : Int) ≤ 7) = true := decide_eq_true (by omega)
            have hit : 4 + i < t.size := by have := HTS.out; omega
            obtain ⟨b, hbt, hb48, hb57, hbd⟩ := dgt_at t 8 HTS.out HTA.out (4 + i) (by omega) hit
            have HBD := Aside0.mk hbd
            clear hbd
            go_wp2_with fail
            refine (pats164 _ (b - 48) (by omega) (by omega)).mono ?_
            rintro e w6 ⟨ad, c6, A6, c7, rfl, hcell, hc7, hC7, hb6⟩
            have HX6 := Aside0.mk (HX.out.below hb6 HX.out.lt)
            have HB6 := Aside0.mk (HB.out.trans (hb6.mono HB.out.size))
            have HC7 := Aside0.mk hC7
            clear hC7 hb6 HX HB
            go_wp2_with fail
            obtain ⟨l1, l2, l3⟩ := lp_facts (b - 48) (by omega) (by omega)
            have hpl := mid8_length t HTA.out i (by omega)
            refine (appendPat' w6 gt 67 z67 (mid8 t i) A6 c7 (lp (b - 48)) true (36 + 7 * (i : Int)) 7 (by rw [hpl]; omega) (by rw [l3 true]; rfl) HX6.out z67_length (by omega) (by omega) 4 l1 HC7.out hc7 l2 (by omega) (by omega)).mono ?_
            rintro e w7 ⟨rfl, hx, hu⟩
            have HX7 := Aside0.mk hx
            have HB7 := Aside0.mk (HB6.out.trans (hu.below hge HB6.out.size))
            clear hx hu HX6 HB6 HC7 hcell l1 l2 l3 hpl
            go_wp2
            go_roundw
            case rel => exact ⟨i + 1, by omega, by go_num, by go_num, ⟨by
              have := HX7.out
              rw [show mid8 t (i + 1) = mid8 t i ++ bars true (lp (b - 48)) by unfold mid8; rw [digs_next, HBD.out]; simp only [List.append_assoc]]
              exact this⟩, HB7⟩
            case measure => simp [intOf]; omega
          · obtain rfl : i = 4 := by omega
            go_wp2_with fail
            refine (pat163 _).mono ?_
            rintro e w6 ⟨A6, c6, rfl, hc6, hC6, hb6⟩
            have HX6 := Aside0.mk (HX.out.below hb6 HX.out.lt)
            have HB6 := Aside0.mk (HB.out.trans (hb6.mono HB.out.size))
            have HC6 := Aside0.mk hC6
            clear hb6 hC6 HX HB
            go_wp2_with fail
            have hpl := mid8_length t HTA.out 4 (by omega)
            refine (appendPat' w6 gt 67 z67 (mid8 t 4) A6 c6 [1, 1, 1] true 64 3 (by rw [hpl]; rfl) rfl HX6.out z67_length (by omega) (by omega) 3 rfl HC6.out hc6 (by decide) (by omega) (by omega)).mono ?_
            rintro e w7 ⟨rfl, hx, hu⟩
            have HX7 := Aside0.mk hx
            have HB7 := Aside0.mk (HB6.out.trans (hu.below hge HB6.out.size))
            clear hx hu HX6 HB6 HC6 hc6 hpl
            go_wp2
            go_ret2
            have hlen := code8_length t HTA.out
            refine ⟨_, rfl, ?_, HB7.out⟩
            have hx' : Blk w7 gt 4 (bools (put z67 (code8 t))).toArray := HX7.out
            rw [put_all _ _ (by rw [hlen, z67_length])] at hx'
            exact Kd.R_mono (R_of_blk hx' hlen (by omega) hge) (fun _ _ => trivial)
  · have HD := Aside0.mk hd
    subst ht
    have HCK := Aside0.mk hck
    have HS := Aside0.mk (show t.size = 8 by omega)
    clear hd hck
    go_enter Tryz.func158, Tryz.ntmps158
    go_wp2_with fail
    refine (ck161 _ t 7 HS.out (by omega)).mono ?_
    rintro e wz ⟨hp, hb⟩
    have he : e = .returned (.tuple #[.bool true, .nilIface]) := by
      rcases hp with ⟨_, h⟩ | ⟨h, _⟩
      · rw [h, decide_eq_true HCK.out]
      · exact absurd HD.out h
    subst he
    have HBZ := Aside0.mk ((below_alloc (Below.refl _ w) (.cells #[] 92)).trans (hb.mono (by simp)))
    clear hp hb
    go_wp2_with fail
    clear hsI
    refine (numeric _ t (by have := HTS.out; omega) t.size (Nat.le_refl _) (isDig_all t 8 HTS.out HTA.out) (fun h => absurd h (Nat.lt_irrefl _))).mono ?_
    rintro e w2 ⟨v, rfl, hv, hb2⟩
    obtain rfl : v = .nilIface := by unfold NumPost at hv; rw [if_pos rfl] at hv; exact hv
    have HB2 := Aside0.mk (HBZ.out.trans (hb2.mono HBZ.out.size))
    clear hv hb2 HBZ
    go_wp2_with fail
    obtain ⟨gt, hgt⟩ : ∃ gt, w2.heap.size = gt := ⟨_, rfl⟩
    obtain ⟨w3, hw3⟩ : ∃ w3, w2.alloc (.cells (bools z67).toArray 4) = w3 := ⟨_, rfl⟩
    have hbk : Blk w3 gt 4 (bools (put z67 [])).toArray := by rw [← hw3, ← hgt, put_nil]; exact Blk.new _ _ _
    have hb3 : Below w.heap.size w w3 := by rw [← hw3]; exact HB2.out.trans ((below_alloc (Below.refl _ w2) _).mono HB2.out.size)
    have hge : w.heap.size ≤ gt := by rw [← hgt]; exact HB2.out.size
    have HB3 := Aside0.mk hb3
    have HBK := Aside0.mk hbk
    simp only [hw3, hgt]
    clear hb3 hbk hw3 hgt HB2 hmk
    refine (pat163 _).mono ?_
    rintro e w4 ⟨A4, c4, rfl, hc4, hC4, hb4⟩
    have HBK4 := Aside0.mk (HBK.out.below hb4 HBK.out.lt)
    have HB4 := Aside0.mk (HB3.out.trans (hb4.mono HB3.out.size))
    have HC4 := Aside0.mk hC4
    clear hb4 hC4 HBK HB3
    go_wp2_with fail
    refine (appendPat' w4 gt 67 z67 [] A4 c4 [1, 1, 1] true 0 3 rfl rfl HBK4.out z67_length (by omega) (by omega) 3 rfl HC4.out hc4 (by decide) (by omega) (by omega)).mono ?_
    rintro e w5 ⟨rfl, hx, hu⟩
    have HX5 := Aside0.mk hx
    have HB5 := Aside0.mk (HB4.out.trans (hu.below hge HB4.out.size))
    clear hx hu HBK4 HB4 HC4 hc4
    go_wp2
    go_loopw [15, 16] (fun pv v wr => ∃ i : Nat, i ≤ 4 ∧ v = .int .i64 i ∧ pv = .int .i64 (3 + 7 * (i : Int)) ∧ Aside0 (Blk wr gt 4 (bools (put z67 (pre8 t i))).toArray) ∧ Aside0 (Below w.heap.size w wr)) (fun _ v _ => 4 - (intOf v).toNat)
    case atStart => exact ⟨0, by omega, rfl, rfl, ⟨by have := HX5.out; simpa [pre8, digs_] using this⟩, HB5⟩
    case round =>
      obtain ⟨i, hi, rfl, rfl, HX, HB⟩ := hrel
      clear HX5 HB5
      by_cases hlt : i < 4
      · have d1 : decide ((i : Int) ≤ 3) = true := decide_eq_true (by omega)
        have hit : i < t.size := by have := HTS.out; omega
        obtain ⟨b, hbt, hb48, hb57, hbd⟩ := dgt_at t 8 HTS.out HTA.out i (by omega) hit
        have HBD := Aside0.mk hbd
        clear hbd
        go_wp2_with fail
        refine (pats164 _ (b - 48) (by omega) (by omega)).mono ?_
        rintro e w6 ⟨ad, c6, A6, c7, rfl, hcell, hc7, hC7, hb6⟩
        have HX6 := Aside0.mk (HX.out.below hb6 HX.out.lt)
        have HB6 := Aside0.mk (HB.out.trans (hb6.mono HB.out.size))
        have HC7 := Aside0.mk hC7
        clear hC7 hb6 HX HB
        go_wp2_with fail
        obtain ⟨l1, l2, l3⟩ := lp_facts (b - 48) (by omega) (by omega)
        have hpl := pre8_length t HTA.out i (by omega)
        refine (appendPat' w6 gt 67 z67 (pre8 t i) A6 c7 (lp (b - 48)) false (3 + 7 * (i : Int)) 7 (by rw [hpl]; omega) (by rw [l3 false]; rfl) HX6.out z67_length (by omega) (by omega) 4 l1 HC7.out hc7 l2 (by omega) (by omega)).mono ?_
        rintro e w7 ⟨rfl, hx, hu⟩
        have HX7 := Aside0.mk hx
        have HB7 := Aside0.mk (HB6.out.trans (hu.below hge HB6.out.size))
        clear hx hu HX6 HB6 HC7 hcell l1 l2 l3 hpl
        go_wp2
        go_roundw
        case rel => exact ⟨i + 1, by omega, by go_num, by go_num, ⟨by
          have := HX7.out
          rw [show pre8 t (i + 1) = pre8 t i ++ bars false (lp (b - 48)) by unfold pre8; rw [digs_next, Nat.zero_add, HBD.out, List.append_assoc]]
          exact this⟩, HB7⟩
        case measure => simp [intOf]; omega
      · obtain rfl : i = 4 := by omega
        go_wp2_with fail
        refine (pat165 _).mono ?_
        rintro e w4 ⟨A4, c4, rfl, hc4, hC4, hb4⟩
        have HX4 := Aside0.mk (HX.out.below hb4 HX.out.lt)
        have HB4 := Aside0.mk (HB.out.trans (hb4.mono HB.out.size))
        have HC4 := Aside0.mk hC4
        clear hb4 hC4 HX HB
        go_wp2_with fail
        have hpl := pre8_length t HTA.out 4 (by omega)
        refine (appendPat' w4 gt 67 z67 (pre8 t 4) A4 c4 [1, 1, 1, 1, 1] false 31 5 (by rw [hpl]; rfl) rfl HX4.out z67_length (by omega) (by omega) 5 rfl HC4.out hc4 (by decide) (by omega) (by omega)).mono ?_
        rintro e w5 ⟨rfl, hx, hu⟩
        have HX5 := Aside0.mk hx
        have HB5 := Aside0.mk (HB4.out.trans (hu.below hge HB4.out.size))
        clear hx hu HX4 HB4 HC4 hc4 hpl hlt hi
        go_wp2
        go_loopw [15, 18] (fun pv v wr => ∃ i : Nat, i ≤ 4 ∧ v = .int .i64 (4 + (i : Int)) ∧ pv = .int .i64 (36 + 7 * (i : Int)) ∧ Aside0 (Blk wr gt 4 (bools (put z67 (mid8 t i))).toArray) ∧ Aside0 (Below w.heap.size w wr)) (fun _ v _ => 8 - (intOf v).toNat)
        case atStart => exact ⟨0, by omega, rfl, rfl, ⟨by have := HX5.out; simpa [mid8, digs_] using this⟩, HB5⟩
        case round =>
          obtain ⟨i, hi, rfl, rfl, HX, HB⟩ := hrel
          clear HX5 HB5
          by_cases hlt : i < 4
          · have d1 : decide (4 + (i : Int) ≤ 7) = true := decide_eq_true (by omega)
            have hit : 4 + i < t.size := by have := HTS.out; omega
            obtain ⟨b, hbt, hb48, hb57, hbd⟩ := dgt_at t 8 HTS.out HTA.out (4 + i) (by omega) hit
            have HBD := Aside0.mk hbd
            clear hbd
            go_wp2_with fail
            refine (pats164 _ (b - 48) (by omega) (by omega)).mono ?_
            rintro e w6 ⟨ad, c6, A6, c7, rfl, hcell, hc7, hC7, hb6⟩
            have HX6 := Aside0.mk (HX.out.below hb6 HX.out.lt)
            have HB6 := Aside0.mk (HB.out.trans (hb6.mono HB.out.size))
            have HC7 := Aside0.mk hC7
            clear hC7 hb6 HX HB
            go_wp2_with fail
            obtain ⟨l1, l2, l3⟩ := lp_facts (b - 48) (by omega) (by omega)
            have hpl := mid8_length t HTA.out i (by omega)
            refine (appendPat' w6 gt 67 z67 (mid8 t i) A6 c7 (lp (b - 48)) true (36 + 7 * (i : Int)) 7 (by rw [hpl]; omega) (by rw [l3 true]; rfl) HX6.out z67_length (by omega) (by omega) 4 l1 HC7.out hc7 l2 (by omega) (by omega)).mono ?_
            rintro e w7 ⟨rfl, hx, hu⟩
            have HX7 := Aside0.mk hx
            have HB7 := Aside0.mk (HB6.out.trans (hu.below hge HB6.out.size))
            clear hx hu HX6 HB6 HC7 hcell l1 l2 l3 hpl
            go_wp2
            go_roundw
            case rel => exact ⟨i + 1, by omega, by go_num, by go_num, ⟨by
              have := HX7.out
              rw [show mid8 t (i + 1) = mid8 t i ++ bars true (lp (b - 48)) by unfold mid8; rw [digs_next, HBD.out]; simp only [List.append_assoc]]
              exact this⟩, HB7⟩
            case measure => simp [intOf]; omega
          · obtain rfl : i = 4 := by omega
            go_wp2_with fail
            refine (pat163 _).mono ?_
            rintro e w6 ⟨A6, c6, rfl, hc6, hC6, hb6⟩
            have HX6 := Aside0.mk (HX.out.below hb6 HX.out.lt)
            have HB6 := Aside0.mk (HB.out.trans (hb6.mono HB.out.size))
            have HC6 := Aside0.mk hC6
            clear hb6 hC6 HX HB
            go_wp2_with fail
            have hpl := mid8_length t HTA.out 4 (by omega)
            refine (appendPat' w6 gt 67 z67 (mid8 t 4) A6 c6 [1, 1, 1] true 64 3 (by rw [hpl]; rfl) rfl HX6.out z67_length (by omega) (by omega) 3 rfl HC6.out hc6 (by decide) (by omega) (by omega)).mono ?_
            rintro e w7 ⟨rfl, hx, hu⟩
            have HX7 := Aside0.mk hx
            have HB7 := Aside0.mk (HB6.out.trans (hu.below hge HB6.out.size))
            clear hx hu HX6 HB6 HC6 hc6 hpl
            go_wp2
            go_ret2
            have hlen := code8_length t HTA.out
            refine ⟨_, rfl, ?_, HB7.out⟩
            have hx' : Blk w7 gt 4 (bools (put z67 (code8 t))).toArray := HX7.out
            rw [put_all _ _ (by rw [hlen, z67_length])] at hx'
            exact Kd.R_mono (R_of_blk hx' hlen (by omega) hge) (fun _ _ => trivial)

set_option maxHeartbeats 4000000 in
set_option maxRecDepth 100000 in
theorem enc8_no (w : World) (mv : Value) (s : ByteArray) (hm : s.size ≤ 2147483647) (h : ∀ t, ¬ Full s 7 t) :
    Calls Tryz.prog 158 #[.agg #[], .string s, mv] w fun e w' => ∃ v x, e = .returned (.tuple #[v, .iface 141 x]) ∧ Below w.heap.size w w' := by
  have hsplit : (∃ (e : (s.size : Int) = 7), ¬ AllDig s 7) ∨ (∃ (e : (s.size : Int) = 8), ¬ AllDig s 7) ∨ (∃ (e : (s.size : Int) = 8), AllDig s 7 ∧ dgt s 7 ≠ chk s 7) ∨ ((s.size : Int) ≠ 7 ∧ (s.size : Int) ≠ 8) := by
    by_cases h7 : (s.size : Int) = 7
    · exact .inl ⟨h7, fun hd => h _ (.inl ⟨by omega, hd, rfl⟩)⟩
    · by_cases h8 : (s.size : Int) = 8
      · by_cases hd : AllDig s 7
        · refine .inr (.inr (.inl ⟨h8, hd, fun hc => h s (.inr ⟨by omega, fun i hi => ?_, hc, rfl⟩)⟩))
          by_cases e : i = 7
          · subst e; rw [hc]; exact (chk_range s 7).2
          · exact hd i (by omega)
        · exact .inr (.inl ⟨h8, hd⟩)
      · exact .inr (.inr (.inr ⟨h7, h8⟩))
  clear h
  rcases hsplit with ⟨hsI, hd⟩ | ⟨hsI, hd⟩ | ⟨hsI, hd, hck⟩ | ⟨h7, h8⟩
  · have HD := Aside0.mk hd
    have HS := Aside0.mk (show s.size = 7 by omega)
    have HFE := methFE
    clear hd
    go_enter Tryz.func158, Tryz.ntmps158
    go_wp2_with fail
    refine (ck160 _ s 7 HS.out (by omega)).mono ?_
    rintro e w1 ⟨hp, hb⟩
    have he : e = .returned (.tuple #[.int .i64 0, .iface 198 (.agg #[.string ⟨#[70, 111, 114, 109, 97, 116, 69, 120, 99, 101, 112, 116, 105, 111, 110]⟩, .nilIface])]) := by
      rcases hp with ⟨h, _⟩ | ⟨_, h⟩
      · exact absurd h HD.out
      · exact h
    subst he
    have HB1 := Aside0.mk ((below_alloc (Below.refl _ w) (.cells #[] 92)).trans (hb.mono (by simp)))
    clear hp hb
    go_wp2_with fail
    refine (errFE _ _).mono ?_
    rintro e w2 ⟨rfl, hb⟩
    have HB2 := Aside0.mk (HB1.out.trans (hb.mono HB1.out.size))
    clear hb HB1
    go_wp2_with (go_at_call 96; refine (newWExc _ _).mono ?_; rintro e w' ⟨x, rfl, hb⟩)
    go_ret2
    exact ⟨_, x, rfl, HB2.out.trans ((below_alloc (Below.refl _ _) _).trans (hb.mono (by simp)) |>.mono HB2.out.size)⟩
  · have HD := Aside0.mk hd
    have HS := Aside0.mk (show s.size = 8 by omega)
    have HFE := methFE
    clear hd
    go_enter Tryz.func158, Tryz.ntmps158
    go_wp2_with fail
    refine (ck161 _ s 7 HS.out (by omega)).mono ?_
    rintro e w1 ⟨hp, hb⟩
    have he : e = .returned (.tuple #[.bool false, .iface 198 (.agg #[.string ⟨#[70, 111, 114, 109, 97, 116, 69, 120, 99, 101, 112, 116, 105, 111, 110]⟩, .nilIface])]) := by
      rcases hp with ⟨h, _⟩ | ⟨_, h⟩
      · exact absurd h HD.out
      · exact h
    subst he
    have HB1 := Aside0.mk ((below_alloc (Below.refl _ w) (.cells #[] 92)).trans (hb.mono (by simp)))
    clear hp hb
    go_wp2_with fail
    refine (errFE _ _).mono ?_
    rintro e w2 ⟨rfl, hb⟩
    have HB2 := Aside0.mk (HB1.out.trans (hb.mono HB1.out.size))
    clear hb HB1
    go_wp2_with (go_at_call 96; refine (newWExc _ _).mono ?_; rintro e w' ⟨x, rfl, hb⟩)
    go_ret2
    exact ⟨_, x, rfl, HB2.out.trans ((below_alloc (Below.refl _ _) _).trans (hb.mono (by simp)) |>.mono HB2.out.size)⟩
  · have HD := Aside0.mk hd
    have HCK := Aside0.mk hck
    have HS := Aside0.mk (show s.size = 8 by omega)
    have HFE := methFE
    clear hd hck
    go_enter Tryz.func158, Tryz.ntmps158
    go_wp2_with fail
    refine (ck161 _ s 7 HS.out (by omega)).mono ?_
    rintro e w1 ⟨hp, hb⟩
    have he : e = .returned (.tuple #[.bool false, .nilIface]) := by
      rcases hp with ⟨_, h⟩ | ⟨h, _⟩
      · rw [h, decide_eq_false HCK.out]
      · exact absurd HD.out h
    subst he
    have HB1 := Aside0.mk ((below_alloc (Below.refl _ w) (.cells #[] 92)).trans (hb.mono (by simp)))
    clear hp hb HFE
    go_wp2_with (go_at_call 96; refine (newWExc _ _).mono ?_; rintro e w' ⟨x, rfl, hb⟩)
    go_ret2
    exact ⟨_, x, rfl, HB1.out.trans ((below_alloc (Below.refl _ _) _).trans (hb.mono (by simp)) |>.mono HB1.out.size)⟩
  · have d1 : ((s.size : Int) == 7) = false := beq_eq_false_iff_ne.2 h7
    have d2 : ((s.size : Int) == 8) = false := beq_eq_false_iff_ne.2 h8
    clear h7 h8
    go_enter Tryz.func158, Tryz.ntmps158
    go_wp2_with (go_at_call 96; refine (newWExc _ _).mono ?_; rintro e w' ⟨x, rfl, hb⟩)
    go_ret2
    exact ⟨_, x, rfl, (below_alloc (below_alloc (Below.refl _ w) (.cells #[] 92)) _).trans (hb.mono (by simp; omega))⟩

def sA4 : ByteArray := ⟨#[65, 65, 65, 65]⟩
set_option maxHeartbeats 4000000 in
set_option maxRecDepth 100000 in
theorem mod8 (w : World) (t : ByteArray) (hts : t.size = 8) (hta : AllDig t 8) :
    Calls Tryz.prog 44 #[.int .i64 6, .string t] w fun e w' => ∃ v, e = .returned v ∧ Kd.R Kd.bool 4 w' w.heap.size (fun _ => True) v (code8 t) ∧ Below w.heap.size w w' := by
  have HTS := Aside0.mk hts
  have HTA := Aside0.mk hta
  have hsi : (t.size : Int) = 8 := by omega
  clear hts hta
  go_enter Tryz.func44, Tryz.ntmps44
  go_wp2_with fail
  refine (bars66 w _ _ ⟨#[49, 49, 49]⟩ [] true (bars true [1, 1, 1]) (by decide +kernel) (by decide) (by simp) (Below.refl _ _) (Kd.R_nil _ _ _ _ _)).mono ?_
  rintro e w1 ⟨v1, rfl, hr1, hb1⟩
  have HR1 := Aside0.mk hr1
  have HB1 := Aside0.mk hb1
  clear hr1 hb1
  go_wp2_with fail
  obtain ⟨lf, hlf⟩ : ∃ x, t.extract 0 4 = x := ⟨_, rfl⟩
  have HLF := Aside0.mk hlf
  have HLS := Aside0.mk (show lf.size = 4 by rw [← hlf, ByteArray.size_extract]; have := HTS.out; omega)
  rw [hlf]
  clear hlf
  go_loopw [5, 52] (fun rv v wr => ∃ i : Nat, i ≤ 4 ∧ v = .int .i64 i ∧ Aside0 (Kd.R Kd.bool 4 wr w.heap.size (fun _ => True) rv (pre8 t i)) ∧ Aside0 (Below w.heap.size w wr)) (fun _ v _ => 4 - (intOf v).toNat)
  case atStart => exact ⟨0, by omega, rfl, ⟨by have := HR1.out; simpa [pre8, digs_] using this⟩, HB1⟩
  case round =>
    obtain ⟨i, hi, rfl, HR, HB⟩ := hrel
    clear HR1 HB1
    by_cases hlt : i < 4
    · have d1 : decide ((i : Int) < 4) = true := decide_eq_true (by omega)
      have hil : i < lf.size := by have := HLS.out; omega
      obtain ⟨b, hb⟩ : ∃ b : Int, ((lf[i]'hil).toNat : Int) = b := ⟨_, rfl⟩
      have hbb : 48 ≤ b ∧ b ≤ 57 ∧ dgt t i = b - 48 := by
        have hit : i < t.size := by have := HTS.out; omega
        obtain ⟨b', h1, h2, h3, h4⟩ := dgt_at t 8 HTS.out HTA.out i (by omega) hit
        have e : b = b' := by
          rw [← hb, ← h1, bt_get lf i hil, bt_get t i hit, ← HLF.out, bt_extract t 4 i (by have := HTS.out; omega) hlt]
        rw [e]; exact ⟨h2, h3, h4⟩
      obtain ⟨hb48, hb57, hbd⟩ := hbb
      have HBD := Aside0.mk hbd
      have hAi : i < sA4.size := by show i < 4; omega
      have hA : ((sA4[i]'hAi).toNat : Int) = 65 := by
        have : ∀ i : Fin 4, ((sA4[i.val]'i.isLt).toNat : Int) = 65 := by decide +kernel
        exact this ⟨i, hlt⟩
      unfold sA4 at hA hAi
      clear hbd
      have hpl : (pre8 t i).length ≤ 900000 := by rw [pre8_length t HTA.out i (by omega)]; omega
      go_wp2_with fail
      go_region_with (go_at_call 68; refine (dig68 w _ _ (pre8 t i) b 65 false (Or.inl ⟨rfl, rfl⟩) (by omega) (by omega) (by assumption) ?side1 ?side2).mono ?_; (case side1 => repeat (first | exact HB.out | apply below_alloc | apply pw_below_drewN | apply below_drew1)); (case side2 => repeat (first | exact HR.out | (with_reducible refine Kd.R_drewN ?_ _) | (with_reducible refine Kd.R_drew ?_))); rintro e w' ⟨v', rfl, hr2, hb2⟩)
      all_goals
        have HR2 := Aside0.mk hr2
        have HB2 := Aside0.mk hb2
        clear hr2 hb2 hpl
        go_wp2
        go_roundw
        case rel => exact ⟨i + 1, by omega, by go_num, ⟨by
          rw [show pre8 t (i + 1) = pre8 t i ++ bars false (lp (b - 48)) by unfold pre8; rw [digs_next, Nat.zero_add, HBD.out]; simp only [List.append_assoc]]
          exact HR2.out⟩, HB2⟩
        case measure => simp [intOf]; omega
    · obtain rfl : i = 4 := by omega
      have hls : (lf.size : Int) = 4 := by have := HLS.out; omega
      go_wp2_with fail
      refine (bars66 w wr _ ⟨#[49, 49, 49, 49, 49]⟩ (pre8 t 4) false (bars false [1, 1, 1, 1, 1]) (by decide +kernel) (by decide) (by rw [pre8_length t HTA.out 4 (by omega)]; omega) HB.out HR.out).mono ?_
      rintro e w2 ⟨v2, rfl, hr2, hb2⟩
      have HR2 := Aside0.mk hr2
      have HB2 := Aside0.mk hb2
      clear hr2 hb2 hlt hi
      go_wp2_with fail
      go_loopw [5, 11] (fun rv v wr => ∃ i : Nat, i ≤ 4 ∧ v = .int .i64 (4 + (i : Int)) ∧ Aside0 (Kd.R Kd.bool 4 wr w.heap.size (fun _ => True) rv (mid8 t i)) ∧ Aside0 (Below w.heap.size w wr)) (fun _ v _ => 8 - (intOf v).toNat)
      case atStart => exact ⟨0, by omega, rfl, ⟨by have := HR2.out; simpa [mid8, digs_] using this⟩, HB2⟩
      case round =>
        clear HR HB
        obtain ⟨i, hi, rfl, HR, HB⟩ := hrel
        clear HR2 HB2
        by_cases hlt : i < 4
        · have d1 : decide (4 + (i : Int) < 8) = true := decide_eq_true (by omega)
          have hit : 4 + i < t.size := by have := HTS.out; omega
          obtain ⟨b, hbt, hb48, hb57, hbd⟩ := dgt_at t 8 HTS.out HTA.out (4 + i) (by omega) hit
          have HBD := Aside0.mk hbd
          clear hbd
          have hpl : (mid8 t i).length ≤ 900000 := by rw [mid8_length t HTA.out i (by omega)]; omega
          go_wp2_with fail
          refine (dig68 w _ _ (mid8 t i) b 67 true (Or.inr ⟨rfl, rfl⟩) (by omega) (by omega) (by assumption) HB.out HR.out).mono ?_
          rintro e w' ⟨v', rfl, hr2, hb2⟩
          have HR2 := Aside0.mk hr2
          have HB2 := Aside0.mk hb2
          clear hr2 hb2 hpl
          go_wp2
          go_roundw
          case rel => exact ⟨i + 1, by omega, by go_num, ⟨by
            rw [show mid8 t (i + 1) = mid8 t i ++ bars true (lp (b - 48)) by unfold mid8; rw [digs_next, HBD.out]; simp only [List.append_assoc]]
            exact HR2.out⟩, HB2⟩
          case measure => simp [intOf]; omega
        · obtain rfl : i = 4 := by omega
          go_wp2_with fail
          refine (bars66 w _ _ ⟨#[49, 49, 49]⟩ (mid8 t 4) true (bars true [1, 1, 1]) (by decide +kernel) (by decide) (by rw [mid8_length t HTA.out 4 (by omega)]; omega) HB.out HR.out).mono ?_
          rintro e w2 ⟨v2, rfl, hr2, hb2⟩
          have HR2 := Aside0.mk hr2
          have HB2 := Aside0.mk hb2
          clear hr2 hb2
          go_wp2
          go_ret
          exact ⟨_, rfl, HR2.out, HB2.out⟩
end Go.Proofs.YthkddnmomjcdaaaGreat.B
