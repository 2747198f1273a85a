import Derived.Test.YthkddnmomjcdaaaGreatMupca0
namespace Go.Proofs.YthkddnmomjcdaaaGreat.B
open Go.RowKit Go.Proofs.YthkddnmomjcdaaaGreatW.PrintWords Go.Proofs.YthkddnmomjcdaaaGreatW.PrintLast Go.Proofs.YthkddnmomjcdaaaGreatW.PrintMore
set_option linter.unusedVariables false
set_option linter.unusedSimpArgs false

theorem encode_none13 (w : World) (v m : Value) (t : ByteArray) (f wd ht : Int) (h0 : t.size = 0) :
    Calls Tryz.prog 94 #[v, .string t, .int .i64 f, .int .i64 wd, .int .i64 ht, m] w fun e w' => (∃ x, e = .returned (.tuple #[.pointer none, .iface 141 x])) ∧ Below w.heap.size w w' := by
  have hlen : (t.size : Int) = 0 := by omega
  clear h0
  go_enter Tryz.func94, Tryz.ntmps94
  go_wp2_with (go_at_call 96; refine (newWExc _ _).mono ?_; rintro e w' ⟨x, rfl, hb⟩)
  go_ret2
  exact ⟨⟨_, rfl⟩, (below_alloc (Below.refl _ w) _).trans (hb.mono (by simp))⟩
set_option maxHeartbeats 2000000 in
set_option maxRecDepth 100000 in
theorem odWrite_ean13_none (w : World) (text : ByteArray) (wd mg : Int) (h0 : text.size = 0) :
    Calls Tryz.prog 15 #[.int .i64 7, .string text, .int .i64 wd, .int .i64 mg] w fun e w' => e = .returned (.tuple #[.slice none 0 0, .bool false]) ∧ Below w.heap.size w w' := by
  have hmm := @run_makeMap Tryz.prog
  have H0 := Aside0.mk h0
  clear h0
  go_enter Tryz.func15, Tryz.ntmps15
  go_wp2_with fail
  refine (writer_ean13 w).mono ?_
  rintro e w1 ⟨rfl, hw1⟩
  have hi := run_ins w1 (.iface 3 (.int .i64 mg))
  have hq := methE w.heap.size
  have hb1 : Below w.heap.size w w1 := by rw [hw1]; exact below_alloc (Below.refl _ _) _
  have hg : Blk w1 w.heap.size 106 #[.iface 93 (.agg #[]), .int .i64 9] := by rw [hw1]; exact Blk.new _ _ _
  have HB1 := Aside0.mk hb1
  have HG := Aside0.mk hg
  clear hw1 hb1 hg
  go_wp2_with fail
  have hma : Below w1.heap.size w1 (w1.alloc (.map #[⟨.int .i64 5, .iface 3 (.int .i64 mg), 0⟩] 1)) := below_alloc (Below.refl _ _) _
  refine (encode_none13 _ _ _ text _ _ _ H0.out).mono ?_
  rintro e w2 ⟨⟨x, rfl⟩, hb2⟩
  have HB2 := Aside0.mk (HB1.out.trans ((hma.mono HB1.out.size).trans (hb2.mono (Nat.le_trans HB1.out.size hma.size))))
  clear hma hb2 hi hmm hq
  go_wp2
  go_ret2
  exact ⟨rfl, HB2.out⟩

set_option maxHeartbeats 2000000 in
set_option maxRecDepth 100000 in
theorem odc7_bad (w : World) (s : ByteArray) (h1 : ¬ (s.size = 12 ∧ AllDig s 12)) (h2 : ¬ (s.size = 13 ∧ AllDig s 13)) :
    Calls Tryz.prog 40 #[.int .i64 7, .string s] w fun e w' => e = .returned (.tuple #[.string ⟨#[]⟩, .bool false]) ∧ Below w.heap.size w w' := by
  have T1 := Aside0.mk (fun W => digs63 W s 12 12 rfl (by omega) false (by simp only [Bool.false_eq_true, false_iff]; exact h1))
  have T2 := Aside0.mk (fun W => digs63 W s 13 13 rfl (by omega) false (by simp only [Bool.false_eq_true, false_iff]; exact h2))
  clear h1 h2
  go_enter Tryz.func40, Tryz.ntmps40
  go_wp2_with fail
  refine (T1.out _).mono ?_
  rintro e w1 ⟨rfl, ⟨n1, rfl⟩⟩
  go_wp2_with fail
  refine (T2.out _).mono ?_
  rintro e w2 ⟨rfl, ⟨n2, rfl⟩⟩
  go_wp2
  go_ret2
  exact ⟨rfl, (show Drawn0 w _ from by first | exact ⟨_, rfl⟩ | (repeat (first | exact Drawn0.refl _ | apply Drawn0.step))).below⟩
set_option maxHeartbeats 2000000 in
set_option maxRecDepth 100000 in
theorem odc7_own (w : World) (s : ByteArray) (h1 : s.size = 12) (h2 : AllDig s 12) :
    Calls Tryz.prog 40 #[.int .i64 7, .string s] w fun e w' => e = .returned (.tuple #[.string (ckText s 12), .bool true]) ∧ Below w.heap.size w w' := by
  have T1 := Aside0.mk (fun W => digs63 W s 12 12 rfl (by omega) true (by simp only [true_iff]; exact ⟨h1, h2⟩))
  have T3 := Aside0.mk (fun W => ck64 W (s.extract 0 12) 12 (by rw [ByteArray.size_extract]; omega) (by omega) ((allDig_extract s 12 (by omega)).2 h2))
  rw [chk_extract s 12 (by omega)] at T3
  have HS := Aside0.mk h1
  have hsi : (s.size : Int) = 12 := by omega
  clear h1 h2
  go_enter Tryz.func40, Tryz.ntmps40
  go_wp2_with fail
  refine (T1.out _).mono ?_
  rintro e w1 ⟨rfl, ⟨n1, rfl⟩⟩
  go_wp2_with fail
  refine (T3.out _).mono ?_
  rintro e w2 ⟨rfl, hb2⟩
  have HB2 := Aside0.mk ((show Drawn0 w _ from ⟨_, rfl⟩).below.trans (hb2.mono (by simp)))
  clear hb2
  obtain ⟨own, hown⟩ : ∃ x, s.extract 0 12 = x := ⟨_, rfl⟩
  obtain ⟨ck, hck⟩ : ∃ x : ByteArray, (⟨#[UInt8.ofNat (48 + chk s 12).toNat]⟩ : ByteArray) = x := ⟨_, rfl⟩
  have hos : own.size = 12 := by rw [← hown, ByteArray.size_extract]; have := HS.out; omega
  have hcs : ck.size = 1 := by rw [← hck]; rfl
  have c9 : own.size + ck.size ≤ 9223372036854775807 := by omega
  have c9b0 := eq_true c9
  have c9b1 : decide (own.size + ck.size ≤ 9223372036854775807) = true := decide_eq_true c9
  have c9b2 : (9223372036854775807 < own.size + ck.size) = False := eq_false (Nat.not_lt.2 c9)
  have HW := Aside0.mk (show ckText s 12 = own ++ ck by unfold ckText; rw [hown, hck])
  rw [hown, hck]
  clear hown hck hos hcs
  go_wp2_with fail
  first | go_quiet (fail) | skip
  all_goals try go_wp2
  go_ret2
  exact ⟨by rw [HW.out]; rfl, HB2.out.trans ((show Drawn0 w2 _ from ⟨_, rfl⟩).below.mono HB2.out.size)⟩
set_option maxHeartbeats 2000000 in
set_option maxRecDepth 100000 in
theorem odc7_all (w : World) (s : ByteArray) (h1 : s.size = 13) (h2 : AllDig s 13) :
    Calls Tryz.prog 40 #[.int .i64 7, .string s] w fun e w' => e = .returned (.tuple #[.string (ckText s 12), .bool (decide (dgt s 12 = chk s 12))]) ∧ Below w.heap.size w w' := by
  have h7 : AllDig s 12 := fun i hi => h2 i (by omega)
  have T1 := Aside0.mk (fun W => digs63 W s 12 12 rfl (by omega) false (by simp only [Bool.false_eq_true, false_iff]; omega))
  have T2 := Aside0.mk (fun W => digs63 W s 13 13 rfl (by omega) true (by simp only [true_iff]; exact ⟨h1, h2⟩))
  have T3 := Aside0.mk (fun W => ck64 W (s.extract 0 12) 12 (by rw [ByteArray.size_extract]; omega) (by omega) ((allDig_extract s 12 (by omega)).2 h7))
  rw [chk_extract s 12 (by omega)] at T3
  have HS := Aside0.mk h1
  have HA := Aside0.mk h2
  have hsi : (s.size : Int) = 13 := by omega
  clear h1 h2 h7
  go_enter Tryz.func40, Tryz.ntmps40
  go_wp2_with fail
  refine (T1.out _).mono ?_
  rintro e w1 ⟨rfl, ⟨n1, rfl⟩⟩
  go_wp2_with fail
  refine (T2.out _).mono ?_
  rintro e w2 ⟨rfl, ⟨n2, rfl⟩⟩
  go_wp2_with fail
  refine (T3.out _).mono ?_
  rintro e w2 ⟨rfl, hb2⟩
  have HB2 := Aside0.mk ((show Drawn0 w _ from by first | exact ⟨_, rfl⟩ | exact ⟨_, World.drewN_drewN _ _ _⟩).below.trans (hb2.mono (by simp)))
  clear hb2
  obtain ⟨own, hown⟩ : ∃ x, s.extract 0 12 = x := ⟨_, rfl⟩
  obtain ⟨ck, hck⟩ : ∃ x : ByteArray, (⟨#[UInt8.ofNat (48 + chk s 12).toNat]⟩ : ByteArray) = x := ⟨_, rfl⟩
  have hos : own.size = 12 := by rw [← hown, ByteArray.size_extract]; have := HS.out; omega
  have hcs : ck.size = 1 := by rw [← hck]; rfl
  have c9 : own.size + ck.size ≤ 9223372036854775807 := by omega
  have c9b0 := eq_true c9
  have c9b1 : decide (own.size + ck.size ≤ 9223372036854775807) = true := decide_eq_true c9
  have c9b2 : (9223372036854775807 < own.size + ck.size) = False := eq_false (Nat.not_lt.2 c9)
  have HCK := Aside0.mk hck
  have HW := Aside0.mk (show ckText s 12 = own ++ ck by unfold ckText; rw [hown, hck])
  rw [hown, hck]
  clear hown hck hos hcs
  go_wp2_with fail
  first | go_quiet (fail) | skip
  all_goals try go_wp2
  go_ret2
  refine ⟨?_, HB2.out.trans ((show Drawn0 w2 _ from ⟨_, rfl⟩).below.mono HB2.out.size)⟩
  rw [HW.out, ← eq_last s 12 HS.out (HA.out 12 (by omega)), HCK.out]
  rfl

theorem digs_congr (a b : ByteArray) (p : Nat) (c : Bool) (n : Nat) (h : ∀ k < n, dgt a (p + k) = dgt b (p + k)) : digs_ a p c n = digs_ b p c n := by
  induction n with
  | zero => rfl
  | succ n ih => rw [digs_next, digs_next, ih (fun k hk => h k (by omega)), h n (by omega)]
theorem left13_congr (a b : ByteArray) (h0 : dgt a 0 = dgt b 0) (n : Nat) (h : ∀ k < n, dgt a (1 + k) = dgt b (1 + k)) : left13 a n = left13 b n := by
  induction n with
  | zero => rfl
  | succ n ih => rw [left13_next, left13_next, ih (fun k hk => h k (by omega))]; unfold lix; rw [h n (by omega), h0]
theorem code13_congr (a b : ByteArray) (h : ∀ i < 13, dgt a i = dgt b i) : code13 a = code13 b := by
  unfold code13 mid13 pre13
  rw [left13_congr a b (h 0 (by omega)) 6 (fun k hk => h _ (by omega)), digs_congr a b 7 true 6 (fun k hk => h _ (by omega))]
theorem code13_full {s t : ByteArray} (h : Full s 12 t) : code13 t = code13 (ckText s 12) := by
  rcases h with ⟨h1, h2, rfl⟩ | ⟨h1, h2, h3, rfl⟩
  · rfl
  · refine code13_congr _ _ (fun i hi => ?_)
    by_cases e : i = 12
    · subst e; rw [ckText_last t 12 (by omega), h3]
    · rw [ckText_dgt t 12 i (by omega) (by omega)]
theorem code13_first (t : ByteArray) : rdOf false (code13 t) 0 = true := rfl
theorem code13_last (t : ByteArray) (h : AllDig t 13) : rdOf false (code13 t) ((code13 t).length - 1 : Int) = true := by
  rw [code13_length t h]
  unfold rdOf code13
  rw [List.getD_eq_getElem?_getD, List.getElem?_append_right (by rw [mid13_length t h 6 (by omega)]; decide), mid13_length t h 6 (by omega)]
  rfl
theorem short7 (w : World) (s : ByteArray) : Calls Tryz.prog 41 #[.int .i64 7, .string s] w fun e w' => e = .returned (.bool false) ∧ Drawn0 w w' := F.laws_odShort.calls 7 s false w (by unfold F.laws_odShort.f; rw [if_neg (by omega)])

set_option maxHeartbeats 4000000 in
set_option maxRecDepth 100000 in
theorem writ13_bad (w : World) (s u : ByteArray) (hm : s.size ≤ 2147483647) (h : ∀ t, ¬ Full s 12 t) (hc : ∀ W : World, Calls Tryz.prog 40 #[.int .i64 7, .string s] W fun e w' => e = .returned (.tuple #[.string u, .bool false]) ∧ Below W.heap.size W w') :
    Calls Tryz.prog 24 #[.int .i64 7, .string s] w fun e w' => e = .returned (.bool true) ∧ Below w.heap.size w w' := by
  have HC := Aside0.mk hc
  have HW := Aside0.mk (fun W : World => (show Calls Tryz.prog 15 #[.int .i64 7, .string s, .int .i64 0, .int .i64 20] W fun e w' => e = .returned (.tuple #[.slice none 0 0, .bool false]) ∧ Below W.heap.size W w' from by
    by_cases h0 : s.size = 0
    · exact odWrite_ean13_none W s 0 20 h0
    · exact odWrite_ean13_no W s 0 20 (by omega) (by omega) (fun gm W' => enc13_no W' _ s hm h)))
  clear h hc hm
  go_enter Tryz.func24, Tryz.ntmps24
  go_wp2_with fail
  refine (HC.out _).mono ?_
  rintro e w1 ⟨rfl, hb⟩
  have HB1 := Aside0.mk hb
  clear hb
  go_wp2_with fail
  try go_quiet (fail)
  try go_wp2_with fail
  refine (HW.out _).mono ?_
  rintro e w2 ⟨rfl, hb⟩
  have HB2 := Aside0.mk (show Below w.heap.size w w2 from by
    refine HB1.out.trans ?_
    first
    | exact hb.mono HB1.out.size
    | exact (below_drew1' hb).mono HB1.out.size)
  clear hb
  go_wp2
  go_ret
  exact ⟨rfl, HB2.out⟩
set_option maxHeartbeats 4000000 in
set_option maxRecDepth 100000 in
theorem writ13_ok (w : World) (s t : ByteArray) (hm : s.size ≤ 2147483647) (h : Full s 12 t) :
    Calls Tryz.prog 24 #[.int .i64 7, .string s] w fun e w' => e = .returned (.bool true) ∧ Below w.heap.size w w' := by
  have hsm : 12 ≤ s.size ∧ AllDig s 12 := by
    rcases h with ⟨h1, h2, _⟩ | ⟨h1, h2, _⟩
    · exact ⟨by omega, h2⟩
    · exact ⟨by omega, fun i hi => h2 i (by omega)⟩
  obtain ⟨hsm, hd7⟩ := hsm
  have hc : ∀ W : World, Calls Tryz.prog 40 #[.int .i64 7, .string s] W fun e w' => e = .returned (.tuple #[.string (ckText s 12), .bool true]) ∧ Below W.heap.size W w' := by
    intro W
    rcases h with ⟨h1, h2, _⟩ | ⟨h1, h2, h3, _⟩
    · exact odc7_own W s h1 h2
    · have := odc7_all W s h1 h2
      rwa [decide_eq_true h3] at this
  obtain ⟨u, hu⟩ : ∃ u, ckText s 12 = u := ⟨_, rfl⟩
  have hus : u.size = 13 := by rw [← hu]; exact ckText_size s 12 hsm
  have hua : AllDig u 13 := by rw [← hu]; exact ckText_all s 12 hsm hd7
  have hcf := code13_full h
  rw [hu] at hc hcf
  have hlen := code13_length u hua
  have hl8 := code13_last u hua
  obtain ⟨code, hcode⟩ : ∃ code, code13 u = code := ⟨_, rfl⟩
  have HMOD := Aside0.mk (fun W : World => mod13 W u hus hua)
  have hfst := code13_first u
  rw [hcode] at hlen hl8 hcf HMOD hfst
  have HW := Aside0.mk (fun W : World => odRowW_ean13 W s 0 20 code (by omega) (by omega) (by omega) (by omega) (by omega) (by omega) (by omega) (fun gm W' => by
    have := enc13_ok W' (.map (some gm)) s t h
    rwa [hcf] at this))
  have HC := Aside0.mk hc
  have HLEN := Aside0.mk hlen
  have HL8 := Aside0.mk hl8
  have HF := Aside0.mk hfst
  clear h hc hm hsm hd7 hu hus hua hcf hlen hl8 hcode hfst
  obtain ⟨RN, hRN⟩ : ∃ n, (rowOf code 0 20).length = n := ⟨_, rfl⟩
  rw [hRN] at HW
  have HRN := Aside0.mk hRN
  clear hRN
  go_enter Tryz.func24, Tryz.ntmps24
  go_wp2_with fail
  refine (HC.out _).mono ?_
  rintro e w1 ⟨rfl, hb⟩
  have HB1 := Aside0.mk hb
  clear hb
  go_wp2_with fail
  refine (short7 _ s).mono ?_
  rintro e w2 ⟨rfl, ⟨n2, rfl⟩⟩
  have HB2 := Aside0.mk (HB1.out.trans ((show Drawn0 w1 _ from ⟨n2, rfl⟩).below.mono HB1.out.size))
  clear HB1
  go_wp2_with fail
  refine (HW.out _).mono ?_
  rintro e w3 ⟨b, rfl, hbk, hb3⟩
  have HB3 := Aside0.mk (HB2.out.trans (hb3.mono HB2.out.size))
  have HBK := Aside0.mk hbk
  clear hbk hb3 HB2
  go_wp2_with fail
  refine (trim43 w3 b code (by have := HLEN.out; omega) HF.out HL8.out (by have := HLEN.out; omega) RN HRN.out HBK.out).mono ?_
  rintro e w4 ⟨v4, rfl, hv4, hb4⟩
  have HV4 := Aside0.mk hv4
  have HB4 := Aside0.mk (HB3.out.trans (hb4.mono HB3.out.size))
  clear hv4 hb4 HB3 HBK
  go_wp2_with fail
  refine (HMOD.out _).mono ?_
  rintro e w5 ⟨v5, rfl, hr5, hb5⟩
  obtain ⟨A5, c5, rfl, hc5, hC5⟩ := Kd.R_reads hr5
  have hv4 := Kd.V_below HV4.out hb5
  obtain ⟨A4, c4, rfl⟩ := Kd.V_slice hv4
  obtain ⟨_, hc4, hC4⟩ := Kd.V_reads' hv4
  have HC4 := Aside0.mk hC4
  have HC5 := Aside0.mk hC5
  have HB5 := Aside0.mk (HB4.out.trans (hb5.mono HB4.out.size))
  clear hr5 hb5 hv4 hC4 hC5 HV4 HB4
  obtain ⟨kk, hk⟩ := (same_self code (by have := HLEN.out; omega)).rounds
  have HK := Aside0.mk hk
  clear hk
  go_wp2_with fail
  refine (F.spec_ODSame.calls kk A4 c4 code A5 c5 code true _ HC4.out hc4 HC5.out hc5 HK.out).mono ?_
  rintro e w6 ⟨rfl, ⟨n6, rfl⟩⟩
  have HB6 := Aside0.mk (HB5.out.trans ((show Drawn0 w5 _ from ⟨n6, rfl⟩).below.mono HB5.out.size))
  clear HB5
  go_wp2
  go_ret
  exact ⟨rfl, HB6.out⟩
theorem lawEan13 (w : World) (s : ByteArray) :
    Calls Tryz.prog 6 #[.string s] w fun e w' => e = .returned (.bool true) ∧ Below w.heap.size w w' := by
  by_cases hz : s.size ≤ 2147483647
  · have hwr : ∀ W : World, Calls Tryz.prog 24 #[.int .i64 7, .string s] W fun e w' => e = .returned (.bool true) ∧ Below W.heap.size W w' := by
      intro W
      by_cases h : ∃ t, Full s 12 t
      · obtain ⟨t, ht⟩ := h
        exact writ13_ok W s t hz ht
      · have hn : ∀ t, ¬ Full s 12 t := fun t ht => h ⟨t, ht⟩
        by_cases h8 : s.size = 13 ∧ AllDig s 13
        · refine writ13_bad W s (ckText s 12) hz hn (fun W' => ?_)
          have := odc7_all W' s h8.1 h8.2
          rwa [decide_eq_false (fun hc => hn s (.inr ⟨h8.1, h8.2, hc, rfl⟩))] at this
        · exact writ13_bad W s ⟨#[]⟩ hz hn (fun W' => odc7_bad W' s (fun h7 => hn _ (.inl ⟨h7.1, h7.2, rfl⟩)) h8)
    have HW := Aside0.mk hwr
    have hzz : decide ((2147483647 : Int) < (s.size : Int)) = false := decide_eq_false (by omega)
    clear hwr hz
    go_enter Tryz.func6, Tryz.ntmps6
    go_wp2_with (go_at_call 24; refine (HW.out _).mono ?_; rintro e w' ⟨rfl, hb⟩)
    go_ret
    exact ⟨rfl, hb⟩
  · have hzz : decide ((2147483647 : Int) < (s.size : Int)) = true := decide_eq_true (by omega)
    clear hz
    go_enter Tryz.func6, Tryz.ntmps6
    go_wp2
    go_ret
    exact ⟨rfl, Below.refl _ _⟩
theorem walkEan13 (w : World) (s : ByteArray) {p : Prop} (_ : p) :
    Calls Tryz.prog 6 #[.string s] w fun e w' => e = .returned (.bool true) ∧ Below w.heap.size w w' := lawEan13 w s

/-! ### A text with a 0 ahead -/
def z0 (s : ByteArray) : ByteArray := (⟨#[48]⟩ : ByteArray) ++ s
theorem z0_data (s : ByteArray) : (z0 s).data.toList = 48 :: s.data.toList := by
  unfold z0
  rw [ByteArray.data_append, Array.toList_append]
  rfl
theorem z0_size (s : ByteArray) : (z0 s).size = s.size + 1 := by
  rw [← data_length, z0_data, List.length_cons, data_length]
theorem bt_z0 (s : ByteArray) (i : Nat) (h : i < s.size) : bt (z0 s) ((i + 1 : Nat) : Int) = bt s i := by
  rw [bt_gd (z0 s) (i + 1) (by rw [z0_size]; omega), bt_gd s i h, z0_data, List.getD_cons_succ]
theorem dgt_z0 (s : ByteArray) (i : Nat) (h : i < s.size) : dgt (z0 s) (i + 1) = dgt s i := by
  unfold dgt; rw [bt_z0 s i h]
theorem dgt_z0_0 (s : ByteArray) : dgt (z0 s) 0 = 0 := by
  unfold dgt
  rw [bt_gd (z0 s) 0 (by rw [z0_size]; omega), z0_data]
  rfl
theorem legs_z0 (s : ByteArray) (p : Int) (j : Nat) (hp : p < s.size) (hj : 2 * ((j : Int) - 1) ≤ p) : legs (z0 s) (p + 1) j = legs s p j := by
  induction j with
  | zero => rfl
  | succ j ih =>
    simp only [legs]
    rw [ih (by omega), show (p + 1 - 2 * (j : Int)).toNat = (p - 2 * (j : Int)).toNat + 1 by omega, dgt_z0 s _ (by omega)]
theorem chk_z0 (s : ByteArray) (h : 11 ≤ s.size) : chk (z0 s) 12 = chk s 11 := by
  unfold chk
  have h1 : legs (z0 s) (((12 : Nat) : Int) - 1) ((12 + 1) / 2) = legs s (((11 : Nat) : Int) - 1) ((11 + 1) / 2) := by
    have := legs_z0 s 10 6 (by omega) (by omega)
    exact this
  have h2 : legs (z0 s) (((12 : Nat) : Int) - 2) (12 / 2) = legs s (((11 : Nat) : Int) - 2) (11 / 2) := by
    have := legs_z0 s 9 5 (by omega) (by omega)
    show legs (z0 s) 10 6 = legs s 9 5
    rw [legs]
    have e : legs (z0 s) 10 5 = legs s 9 5 := this
    rw [e, show ((10 : Int) - 2 * ((5 : Nat) : Int)).toNat = 0 from rfl, dgt_z0_0]
    omega
  rw [h1, h2]
theorem allDig_z0 (s : ByteArray) (n : Nat) (h : n ≤ s.size) : AllDig (z0 s) (n + 1) ↔ AllDig s n := by
  constructor
  · intro ha i hi
    rw [← dgt_z0 s i (by omega)]
    exact ha (i + 1) (by omega)
  · intro ha i hi
    cases i with
    | zero => rw [dgt_z0_0]; omega
    | succ i => rw [dgt_z0 s i (by omega)]; exact ha i (by omega)
theorem full_z0 {s t : ByteArray} (h : Full s 11 t) : ∃ u, Full (z0 s) 12 u := by
  rcases h with ⟨h1, h2, _⟩ | ⟨h1, h2, h3, _⟩
  · exact ⟨_, .inl ⟨by rw [z0_size]; omega, (allDig_z0 s 11 (by omega)).2 h2, rfl⟩⟩
  · exact ⟨_, .inr ⟨by rw [z0_size]; omega, (allDig_z0 s 12 (by omega)).2 h2, by rw [chk_z0 s (by omega), dgt_z0 s 11 (by omega), h3], rfl⟩⟩
theorem full_z0' {s u : ByteArray} (h : Full (z0 s) 12 u) : ∃ t, Full s 11 t := by
  rcases h with ⟨h1, h2, _⟩ | ⟨h1, h2, h3, _⟩
  · rw [z0_size] at h1
    exact ⟨_, .inl ⟨by omega, (allDig_z0 s 11 (by omega)).1 h2, rfl⟩⟩
  · rw [z0_size] at h1
    exact ⟨_, .inr ⟨by omega, (allDig_z0 s 12 (by omega)).1 h2, by rw [← chk_z0 s (by omega), ← dgt_z0 s 11 (by omega), h3], rfl⟩⟩
theorem code13_z0 (s : ByteArray) (h : 11 ≤ s.size) : code13 (ckText (z0 s) 12) = code13 (z0 (ckText s 11)) := by
  refine code13_congr _ _ (fun i hi => ?_)
  by_cases e : i = 12
  · subst e
    rw [ckText_last (z0 s) 12 (by rw [z0_size]; omega), dgt_z0 (ckText s 11) 11 (by rw [ckText_size s 11 h]; omega), ckText_last s 11 h, chk_z0 s h]
  · rw [ckText_dgt (z0 s) 12 i (by rw [z0_size]; omega) (by omega)]
    cases i with
    | zero => rw [dgt_z0_0, dgt_z0_0]
    | succ i => rw [dgt_z0 s i (by omega), dgt_z0 _ i (by rw [ckText_size s 11 h]; omega), ckText_dgt s 11 i h (by omega)]

set_option maxHeartbeats 2000000 in
set_option maxRecDepth 100000 in
theorem odc14_bad (w : World) (s : ByteArray) (h1 : ¬ (s.size = 11 ∧ AllDig s 11)) (h2 : ¬ (s.size = 12 ∧ AllDig s 12)) :
    Calls Tryz.prog 40 #[.int .i64 14, .string s] w fun e w' => e = .returned (.tuple #[.string ⟨#[]⟩, .bool false]) ∧ Below w.heap.size w w' := by
  have T1 := Aside0.mk (fun W => digs63 W s 11 11 rfl (by omega) false (by simp only [Bool.false_eq_true, false_iff]; exact h1))
  have T2 := Aside0.mk (fun W => digs63 W s 12 12 rfl (by omega) false (by simp only [Bool.false_eq_true, false_iff]; exact h2))
  clear h1 h2
  go_enter Tryz.func40, Tryz.ntmps40
  go_wp2_with fail
  refine (T1.out _).mono ?_
  rintro e w1 ⟨rfl, ⟨n1, rfl⟩⟩
  go_wp2_with fail
  refine (T2.out _).mono ?_
  rintro e w2 ⟨rfl, ⟨n2, rfl⟩⟩
  go_wp2
  go_ret2
  exact ⟨rfl, (show Drawn0 w _ from by first | exact ⟨_, rfl⟩ | (repeat (first | exact Drawn0.refl _ | apply Drawn0.step))).below⟩
set_option maxHeartbeats 2000000 in
set_option maxRecDepth 100000 in
theorem odc14_own (w : World) (s : ByteArray) (h1 : s.size = 11) (h2 : AllDig s 11) :
    Calls Tryz.prog 40 #[.int .i64 14, .string s] w fun e w' => e = .returned (.tuple #[.string (ckText s 11), .bool true]) ∧ Below w.heap.size w w' := by
  have T1 := Aside0.mk (fun W => digs63 W s 11 11 rfl (by omega) true (by simp only [true_iff]; exact ⟨h1, h2⟩))
  have T3 := Aside0.mk (fun W => ck64 W (s.extract 0 11) 11 (by rw [ByteArray.size_extract]; omega) (by omega) ((allDig_extract s 11 (by omega)).2 h2))
  rw [chk_extract s 11 (by omega)] at T3
  have HS := Aside0.mk h1
  have hsi : (s.size : Int) = 11 := by omega
  clear h1 h2
  go_enter Tryz.func40, Tryz.ntmps40
  go_wp2_with fail
  refine (T1.out _).mono ?_
  rintro e w1 ⟨rfl, ⟨n1, rfl⟩⟩
  go_wp2_with fail
  refine (T3.out _).mono ?_
  rintro e w2 ⟨rfl, hb2⟩
  have HB2 := Aside0.mk ((show Drawn0 w _ from ⟨_, rfl⟩).below.trans (hb2.mono (by simp)))
  clear hb2
  obtain ⟨own, hown⟩ : ∃ x, s.extract 0 11 = x := ⟨_, rfl⟩
  obtain ⟨ck, hck⟩ : ∃ x : ByteArray, (⟨#[UInt8.ofNat (48 + chk s 11).toNat]⟩ : ByteArray) = x := ⟨_, rfl⟩
  have hos : own.size = 11 := by rw [← hown, ByteArray.size_extract]; have := HS.out; omega
  have hcs : ck.size = 1 := by rw [← hck]; rfl
  have c9 : own.size + ck.size ≤ 9223372036854775807 := by omega
  have c9b0 := eq_true c9
  have c9b1 : decide (own.size + ck.size ≤ 9223372036854775807) = true := decide_eq_true c9
  have c9b2 : (9223372036854775807 < own.size + ck.size) = False := eq_false (Nat.not_lt.2 c9)
  have HW := Aside0.mk (show ckText s 11 = own ++ ck by unfold ckText; rw [hown, hck])
  rw [hown, hck]
  clear hown hck hos hcs
  go_wp2_with fail
  first | go_quiet (fail) | skip
  all_goals try go_wp2
  go_ret2
  exact ⟨by rw [HW.out]; rfl, HB2.out.trans ((show Drawn0 w2 _ from ⟨_, rfl⟩).below.mono HB2.out.size)⟩
set_option maxHeartbeats 2000000 in
set_option maxRecDepth 100000 in
theorem odc14_all (w : World) (s : ByteArray) (h1 : s.size = 12) (h2 : AllDig s 12) :
    Calls Tryz.prog 40 #[.int .i64 14, .string s] w fun e w' => e = .returned (.tuple #[.string (ckText s 11), .bool (decide (dgt s 11 = chk s 11))]) ∧ Below w.heap.size w w' := by
  have h7 : AllDig s 11 := fun i hi => h2 i (by omega)
  have T1 := Aside0.mk (fun W => digs63 W s 11 11 rfl (by omega) false (by simp only [Bool.false_eq_true, false_iff]; omega))
  have T2 := Aside0.mk (fun W => digs63 W s 12 12 rfl (by omega) true (by simp only [true_iff]; exact ⟨h1, h2⟩))
  have T3 := Aside0.mk (fun W => ck64 W (s.extract 0 11) 11 (by rw [ByteArray.size_extract]; omega) (by omega) ((allDig_extract s 11 (by omega)).2 h7))
  rw [chk_extract s 11 (by omega)] at T3
  have HS := Aside0.mk h1
  have HA := Aside0.mk h2
  have hsi : (s.size : Int) = 12 := by omega
  clear h1 h2 h7
  go_enter Tryz.func40, Tryz.ntmps40
  go_wp2_with fail
  refine (T1.out _).mono ?_
  rintro e w1 ⟨rfl, ⟨n1, rfl⟩⟩
  go_wp2_with fail
  refine (T2.out _).mono ?_
  rintro e w2 ⟨rfl, ⟨n2, rfl⟩⟩
  go_wp2_with fail
  refine (T3.out _).mono ?_
  rintro e w2 ⟨rfl, hb2⟩
  have HB2 := Aside0.mk ((show Drawn0 w _ from by first | exact ⟨_, rfl⟩ | exact ⟨_, World.drewN_drewN _ _ _⟩).below.trans (hb2.mono (by simp)))
  clear hb2
  obtain ⟨own, hown⟩ : ∃ x, s.extract 0 11 = x := ⟨_, rfl⟩
  obtain ⟨ck, hck⟩ : ∃ x : ByteArray, (⟨#[UInt8.ofNat (48 + chk s 11).toNat]⟩ : ByteArray) = x := ⟨_, rfl⟩
  have hos : own.size = 11 := by rw [← hown, ByteArray.size_extract]; have := HS.out; omega
  have hcs : ck.size = 1 := by rw [← hck]; rfl
  have c9 : own.size + ck.size ≤ 9223372036854775807 := by omega
  have c9b0 := eq_true c9
  have c9b1 : decide (own.size + ck.size ≤ 9223372036854775807) = true := decide_eq_true c9
  have c9b2 : (9223372036854775807 < own.size + ck.size) = False := eq_false (Nat.not_lt.2 c9)
  have HCK := Aside0.mk hck
  have HW := Aside0.mk (show ckText s 11 = own ++ ck by unfold ckText; rw [hown, hck])
  rw [hown, hck]
  clear hown hck hos hcs
  go_wp2_with fail
  first | go_quiet (fail) | skip
  all_goals try go_wp2
  go_ret2
  refine ⟨?_, HB2.out.trans ((show Drawn0 w2 _ from ⟨_, rfl⟩).below.mono HB2.out.size)⟩
  rw [HW.out, ← eq_last s 11 HS.out (HA.out 11 (by omega)), HCK.out]
  rfl

theorem new_upca (w : World) : Calls Tryz.prog 55 #[] w fun e w' => e = .returned (.iface 95 (.pointer (some ⟨w.heap.size + 1, 0, none⟩))) ∧ w' = (w.alloc (.cells #[.iface 93 (.agg #[]), .int .i64 9] 106)).alloc (.cells #[.iface 85 (.pointer (some ⟨w.heap.size, 0, none⟩))] 97) := by
  go_enter Tryz.func55, Tryz.ntmps55
  go_wp2_with (go_at_call 53; refine (new_ean13 _).mono ?_; rintro e w' ⟨rfl, rfl⟩)
  go_ret
  exact ⟨rfl, rfl⟩
theorem writer_upca (w : World) : Calls Tryz.prog 29 #[.int .i64 14] w fun e w' => e = .returned (.iface 95 (.pointer (some ⟨w.heap.size + 1, 0, none⟩))) ∧ w' = (w.alloc (.cells #[.iface 93 (.agg #[]), .int .i64 9] 106)).alloc (.cells #[.iface 85 (.pointer (some ⟨w.heap.size, 0, none⟩))] 97) := by
  go_enter Tryz.func29, Tryz.ntmps29
  go_wp2_with (go_at_call 55; refine (new_upca _).mono ?_; rintro e w' ⟨rfl, rfl⟩)
  go_ret
  exact ⟨rfl, rfl⟩
theorem methA (g : Nat) (W : World) : Sem.run Tryz.prog (method 315 95 (.pointer (some ⟨g, 0, none⟩)) "Encode") W = .ok (176, .pointer (some ⟨g, 0, none⟩)) W := by kernel_rfl

set_option maxHeartbeats 2000000 in
set_option maxRecDepth 100000 in
theorem encode_upca_ok (w : World) (ga g gm : Nat) (text : ByteArray) (wd mg : Int) (code : List Bool) (full out many left rs : Int) (R : Nat)
    (hga : Blk w ga 97 #[.iface 85 (.pointer (some ⟨g, 0, none⟩))]) (hg : Blk w g 106 #[.iface 93 (.agg #[]), .int .i64 9]) (hm : w.heap[gm]? = some (.map #[⟨.int .i64 5, .iface 3 (.int .i64 mg), 0⟩] 1)) (hts : text.size ≤ 2147483647) (h1 : 0 ≤ wd)
    (q0 : 0 < (code.length : Int) + mg) (hm0 : 0 ≤ mg) (hm1 : mg ≤ 1000) (hw1 : wd ≤ 100000) (hlc : code.length ≤ 100000)
    (hfull : (code.length : Int) + mg = full) (hout : (if full < wd then wd else full) = out) (hmany : out / full = many) (hleft : (out - code.length * many) / 2 = left) (hrs : (out + 31) / 32 = rs) (hR : rs = (R : Int))
    (henc : ∀ W : World, Calls Tryz.prog 167 #[.agg #[], .string (z0 text), .map (some gm)] W fun e w' => ∃ v, e = .returned (.tuple #[v, .nilIface]) ∧ Kd.R Kd.bool 4 w' W.heap.size (fun _ => True) v code ∧ Below W.heap.size W w') :
    Calls Tryz.prog 176 #[.pointer (some ⟨ga, 0, none⟩), .string text, .int .i64 14, .int .i64 wd, .int .i64 1, .map (some gm)] w fun e w' => ∃ b, w.heap.size ≤ b ∧ e = .returned (.tuple #[.pointer (some ⟨b + 1, 0, none⟩), .nilIface]) ∧ Blk w' b 78 (nums .u32 (paint code left many (List.replicate R 0) code.length)).toArray ∧ Blk w' (b + 1) 75 #[.int .i64 out, .int .i64 1, .int .i64 rs, .slice (some ⟨b, 0, none⟩) R R] ∧ Below w.heap.size w w' := by
  have c0 : w.cell? ⟨ga, 0, none⟩ = some (.iface 85 (.pointer (some ⟨g, 0, none⟩))) := hga.cell 0
  have m1 := methE g
  have hz0 : 0 < (z0 text).size := by rw [z0_size]; omega
  have HC := Aside0.mk (encode_ean13_ok w g gm (z0 text) wd mg code full out many left rs R hg hm hz0 h1 q0 hm0 hm1 hw1 hlc hfull hout hmany hleft hrs hR henc)
  clear hfull hout hmany hleft hrs hR q0 hm0 hm1 hw1 hlc
  have c9 : 1 + text.size ≤ 9223372036854775807 := by omega
  have c9b0 := eq_true c9
  have c9b1 : decide (1 + text.size ≤ 9223372036854775807) = true := decide_eq_true c9
  have c9b2 : (9223372036854775807 < 1 + text.size) = False := eq_false (Nat.not_lt.2 c9)
  clear hga hg hm h1 henc hts hz0
  go_enter Tryz.func176, Tryz.ntmps176
  go_wp2_with fail
  refine HC.out.mono ?_
  rintro e w1 ⟨b, hb, rfl, hx1, hx2, hb1⟩
  have HX1 := Aside0.mk hx1
  have HX2 := Aside0.mk hx2
  have HB1 := Aside0.mk hb1
  clear hx1 hx2 hb1
  go_wp2
  go_ret2
  exact ⟨_, hb, rfl, HX1.out, HX2.out, HB1.out⟩

set_option maxHeartbeats 2000000 in
set_option maxRecDepth 100000 in
theorem encode_upca_no (w : World) (ga g gm : Nat) (text : ByteArray) (wd mg : Int) 
    (hga : Blk w ga 97 #[.iface 85 (.pointer (some ⟨g, 0, none⟩))]) (hg : Blk w g 106 #[.iface 93 (.agg #[]), .int .i64 9]) (hm : w.heap[gm]? = some (.map #[⟨.int .i64 5, .iface 3 (.int .i64 mg), 0⟩] 1)) (hts : text.size ≤ 2147483647) (h1 : 0 ≤ wd)
    (henc : ∀ W : World, Calls Tryz.prog 167 #[.agg #[], .string (z0 text), .map (some gm)] W fun e w' => ∃ v x, e = .returned (.tuple #[v, .iface 141 x]) ∧ Below W.heap.size W w') :
    Calls Tryz.prog 176 #[.pointer (some ⟨ga, 0, none⟩), .string text, .int .i64 14, .int .i64 wd, .int .i64 1, .map (some gm)] w fun e w' => (∃ x, e = .returned (.tuple #[.pointer none, .iface 141 x])) ∧ Below w.heap.size w w' := by
  have c0 : w.cell? ⟨ga, 0, none⟩ = some (.iface 85 (.pointer (some ⟨g, 0, none⟩))) := hga.cell 0
  have m1 := methE g
  have hz0 : 0 < (z0 text).size := by rw [z0_size]; omega
  have HC := Aside0.mk (encode_ean13_no w g gm (z0 text) wd mg hg hm hz0 h1 henc)
  have c9 : 1 + text.size ≤ 9223372036854775807 := by omega
  have c9b0 := eq_true c9
  have c9b1 : decide (1 + text.size ≤ 9223372036854775807) = true := decide_eq_true c9
  have c9b2 : (9223372036854775807 < 1 + text.size) = False := eq_false (Nat.not_lt.2 c9)
  clear hga hg hm h1 henc hts hz0
  go_enter Tryz.func176, Tryz.ntmps176
  go_wp2_with fail
  refine HC.out.mono ?_
  rintro e w1 ⟨⟨x, rfl⟩, hb1⟩
  have HB1 := Aside0.mk hb1
  clear hb1
  go_wp2
  go_ret2
  exact ⟨⟨_, rfl⟩, HB1.out⟩

set_option maxHeartbeats 2000000 in
set_option maxRecDepth 100000 in
theorem odWrite_upca_ok (w : World) (text : ByteArray) (wd mg : Int) (code : List Bool) (full out many left rs : Int) (R OUT : Nat) (hts : text.size ≤ 2147483647) (h1 : 0 ≤ wd)
    (q0 : 0 < (code.length : Int) + mg) (hm0 : 0 ≤ mg) (hm1 : mg ≤ 1000) (hw1 : wd ≤ 100000) (hlc : code.length ≤ 100000)
    (hfull : (code.length : Int) + mg = full) (hout : (if full < wd then wd else full) = out) (hmany : out / full = many) (hleft : (out - code.length * many) / 2 = left) (hrs : (out + 31) / 32 = rs) (hR : rs = (R : Int)) (hOUT : out = (OUT : Int))
    (henc : ∀ (gm : Nat) (W : World), Calls Tryz.prog 167 #[.agg #[], .string (z0 text), .map (some gm)] W fun e w' => ∃ v, e = .returned (.tuple #[v, .nilIface]) ∧ Kd.R Kd.bool 4 w' W.heap.size (fun _ => True) v code ∧ Below W.heap.size W w') :
    Calls Tryz.prog 15 #[.int .i64 14, .string text, .int .i64 wd, .int .i64 mg] w fun e w' => ∃ b, e = .returned (.tuple #[.slice (some ⟨b, 0, none⟩) OUT OUT, .bool true]) ∧ Blk w' b 4 (bools (unbits (cpy (paint code left many (List.replicate R 0) code.length) (List.replicate R 0) 0 R) OUT)).toArray ∧ Below w.heap.size w w' := by
  have hmm := @run_makeMap Tryz.prog
  have HE := Aside0.mk henc
  clear henc
  have HH := Aside0.mk (⟨hfull, hout, hmany, hleft, hrs, hR, hOUT⟩ : _ ∧ _ ∧ _ ∧ _ ∧ _ ∧ _ ∧ _)
  have hob : 0 ≤ out ∧ out ≤ 200000 := by split at hout <;> omega
  obtain ⟨hob1, hob2⟩ := hob
  clear hfull hout hmany hleft hrs hR hOUT
  go_enter Tryz.func15, Tryz.ntmps15
  go_wp2_with fail
  refine (writer_upca w).mono ?_
  rintro e w1 ⟨rfl, hw1⟩
  have hi := run_ins w1 (.iface 3 (.int .i64 mg))
  have hq := methA (w.heap.size + 1)
  have hb1 : Below w.heap.size w w1 := by rw [hw1]; exact below_alloc (below_alloc (Below.refl _ _) _) _
  have hg : Blk w1 w.heap.size 106 #[.iface 93 (.agg #[]), .int .i64 9] := by rw [hw1]; exact Blk.alloc (Blk.new _ _ _) _
  have hga : Blk w1 (w.heap.size + 1) 97 #[.iface 85 (.pointer (some ⟨w.heap.size, 0, none⟩))] := by
    rw [hw1]
    have := Blk.new (w.alloc (.cells #[.iface 93 (.agg #[]), .int .i64 9] 106)) 97 #[.iface 85 (.pointer (some ⟨w.heap.size, 0, none⟩))]
    simpa using this
  have HB1 := Aside0.mk hb1
  have HG := Aside0.mk hg
  have HGA := Aside0.mk hga
  clear hw1 hb1 hg hga
  go_wp2_with fail
  obtain ⟨hfull, hout, hmany, hleft, hrs, hR, hOUT⟩ := HH.out
  have hma : Below w1.heap.size w1 (w1.alloc (.map #[⟨.int .i64 5, .iface 3 (.int .i64 mg), 0⟩] 1)) := below_alloc (Below.refl _ _) _
  refine (encode_upca_ok _ (w.heap.size + 1) w.heap.size w1.heap.size text wd mg code full out many left rs R (HGA.out.below hma HGA.out.lt) (HG.out.below hma HG.out.lt) (heap_alloc_new _ _) hts h1 q0 hm0 hm1 hw1 hlc hfull hout hmany hleft hrs hR (HE.out _)).mono ?_
  rintro e w2 ⟨b, hb, rfl, hx1, hx2, hb2⟩
  have hl : (paint code left many (List.replicate R 0) code.length).length = R := by rw [paint_length, List.length_replicate]
  have HX1 := Aside0.mk hx1
  have HX2 := Aside0.mk hx2
  have HB2 := Aside0.mk (HB1.out.trans ((hma.mono HB1.out.size).trans (hb2.mono (Nat.le_trans HB1.out.size hma.size))))
  have HLL := Aside0.mk hl
  clear hfull hout hmany hleft hrs hR hOUT hma hx1 hx2 hb2 hl hi hmm hq hb
  go_wp2_with fail
  obtain ⟨hfull, hout, hmany, hleft, hrs, hR, hOUT⟩ := HH.out
  refine (getRow w2 (b + 1) b out 1 rs 0 _ R R HX2.out HX1.out HLL.out (by omega) hrs hR (by omega) (by omega) (by omega) (by omega) (by omega)).mono ?_
  rintro e w3 ⟨rfl, hy1, hy2, hb3, hsz⟩
  rw [Int.zero_mul] at hy1
  have hl2 : (cpy (paint code left many (List.replicate R 0) code.length) (List.replicate R 0) 0 R).length = R := by rw [cpy_length, List.length_replicate]
  have HY1 := Aside0.mk hy1
  rw [hOUT] at hy2
  have HY2 := Aside0.mk hy2
  have HB3 := Aside0.mk (HB2.out.trans (hb3.mono HB2.out.size))
  have HL2 := Aside0.mk hl2
  have h32 : ((OUT : Int) + 31) / 32 = R := by rw [← hOUT, hrs, hR]
  have H32 := Aside0.mk h32
  have hou : OUT ≤ 200000 := by omega
  clear hfull hout hmany hleft hrs hR hy1 hy2 hb3 hsz hl2 h32 HLL hOUT
  go_wp2_with fail
  refine (toBools w3 _ _ OUT _ R HY2.out HY1.out HL2.out (by have := H32.out; omega) (by omega) H32.out).mono ?_
  rintro e w4 ⟨rfl, hz, hb4⟩
  have HZ := Aside0.mk hz
  have HB4 := Aside0.mk (HB3.out.trans (hb4.mono HB3.out.size))
  clear hz hb4
  go_wp2
  go_ret2
  exact ⟨_, rfl, HZ.out, HB4.out⟩

set_option maxHeartbeats 2000000 in
set_option maxRecDepth 100000 in
theorem odWrite_upca_no (w : World) (text : ByteArray) (wd mg : Int) (hts : text.size ≤ 2147483647) (h1 : 0 ≤ wd)
    (henc : ∀ (gm : Nat) (W : World), Calls Tryz.prog 167 #[.agg #[], .string (z0 text), .map (some gm)] W fun e w' => ∃ v x, e = .returned (.tuple #[v, .iface 141 x]) ∧ Below W.heap.size W w') :
    Calls Tryz.prog 15 #[.int .i64 14, .string text, .int .i64 wd, .int .i64 mg] w fun e w' => e = .returned (.tuple #[.slice none 0 0, .bool false]) ∧ Below w.heap.size w w' := by
  have hmm := @run_makeMap Tryz.prog
  have HE := Aside0.mk henc
  clear henc
  go_enter Tryz.func15, Tryz.ntmps15
  go_wp2_with fail
  refine (writer_upca w).mono ?_
  rintro e w1 ⟨rfl, hw1⟩
  have hi := run_ins w1 (.iface 3 (.int .i64 mg))
  have hq := methA (w.heap.size + 1)
  have hb1 : Below w.heap.size w w1 := by rw [hw1]; exact below_alloc (below_alloc (Below.refl _ _) _) _
  have hg : Blk w1 w.heap.size 106 #[.iface 93 (.agg #[]), .int .i64 9] := by rw [hw1]; exact Blk.alloc (Blk.new _ _ _) _
  have hga : Blk w1 (w.heap.size + 1) 97 #[.iface 85 (.pointer (some ⟨w.heap.size, 0, none⟩))] := by
    rw [hw1]
    have := Blk.new (w.alloc (.cells #[.iface 93 (.agg #[]), .int .i64 9] 106)) 97 #[.iface 85 (.pointer (some ⟨w.heap.size, 0, none⟩))]
    simpa using this
  have HB1 := Aside0.mk hb1
  have HG := Aside0.mk hg
  have HGA := Aside0.mk hga
  clear hw1 hb1 hg hga
  go_wp2_with fail
  have hma : Below w1.heap.size w1 (w1.alloc (.map #[⟨.int .i64 5, .iface 3 (.int .i64 mg), 0⟩] 1)) := below_alloc (Below.refl _ _) _
  refine (encode_upca_no _ (w.heap.size + 1) w.heap.size w1.heap.size text wd mg (HGA.out.below hma HGA.out.lt) (HG.out.below hma HG.out.lt) (heap_alloc_new _ _) hts h1 (HE.out _)).mono ?_
  rintro e w2 ⟨⟨x, rfl⟩, hb2⟩
  have HB2 := Aside0.mk (HB1.out.trans ((hma.mono HB1.out.size).trans (hb2.mono (Nat.le_trans HB1.out.size hma.size))))
  clear hma hb2 hi hmm hq
  go_wp2
  go_ret2
  exact ⟨rfl, HB2.out⟩

/-- ODWrite of the format 14: the row of the code. -/
theorem odRowW_upca (w : World) (text : ByteArray) (wd mg : Int) (code : List Bool) (hts : text.size ≤ 2147483647) (h1 : 0 ≤ wd)
    (q0 : 0 < (code.length : Int) + mg) (hm0 : 0 ≤ mg) (hm1 : mg ≤ 1000) (hw1 : wd ≤ 100000) (hlc : code.length ≤ 100000)
    (henc : ∀ (gm : Nat) (W : World), Calls Tryz.prog 167 #[.agg #[], .string (z0 text), .map (some gm)] W fun e w' => ∃ v, e = .returned (.tuple #[v, .nilIface]) ∧ Kd.R Kd.bool 4 w' W.heap.size (fun _ => True) v code ∧ Below W.heap.size W w') :
    Calls Tryz.prog 15 #[.int .i64 14, .string text, .int .i64 wd, .int .i64 mg] w fun e w' => ∃ b, e = .returned (.tuple #[.slice (some ⟨b, 0, none⟩) (rowOf code wd mg).length (rowOf code wd mg).length, .bool true]) ∧ Blk w' b 4 (bools (rowOf code wd mg)).toArray ∧ Below w.heap.size w w' := by
  have ho := rOut_ge code wd mg q0 hm1 hw1 hlc
  refine (odWrite_upca_ok w text wd mg code (rFull code mg) (rOut code wd mg) (rMany code wd mg) (rLeft code wd mg) ((rOut code wd mg + 31) / 32) ((rOut code wd mg + 31) / 32).toNat (rOut code wd mg).toNat hts h1 q0 hm0 hm1 hw1 hlc rfl rfl rfl rfl rfl (by omega) (by omega) henc).mono ?_
  rintro e w' ⟨b, rfl, hb, hw⟩
  rw [row_eqOf code wd mg q0 hm0 hm1 hw1 hlc _ (by omega)] at hb
  exact ⟨b, by rw [rowOf_length], hb, hw⟩

set_option maxHeartbeats 4000000 in
set_option maxRecDepth 100000 in
theorem mod14 (w : World) (t : ByteArray) (hts : t.size = 12) (hta : AllDig t 12) :
    Calls Tryz.prog 44 #[.int .i64 14, .string t] w fun e w' => ∃ v, e = .returned v ∧ Kd.R Kd.bool 4 w' w.heap.size (fun _ => True) v (code13 (z0 t)) ∧ Below w.heap.size w w' := by
  have HM := Aside0.mk (fun W : World => mod13 W (z0 t) (by rw [z0_size]; omega) ((allDig_z0 t 12 (by omega)).2 hta))
  obtain ⟨CD, hCD⟩ : ∃ c, code13 (z0 t) = c := ⟨_, rfl⟩
  rw [hCD] at HM ⊢
  have c9 : 1 + t.size ≤ 9223372036854775807 := by omega
  have c9b0 := eq_true c9
  have c9b1 : decide (1 + t.size ≤ 9223372036854775807) = true := decide_eq_true c9
  have c9b2 : (9223372036854775807 < 1 + t.size) = False := eq_false (Nat.not_lt.2 c9)
  clear hta hts hCD
  go_enter Tryz.func44, Tryz.ntmps44
  go_wp2_with fail
  refine (bars66 w _ _ ⟨#[49, 49, 49]⟩ [] true (bars true [1, 1, 1]) (by decide +kernel) (by decide) (by simp) (Below.refl _ _) (Kd.R_nil _ _ _ _ _)).mono ?_
  rintro e w1 ⟨v1, rfl, hr1, hb1⟩
  have HB1 := Aside0.mk hb1
  clear hr1 hb1
  go_wp2_with fail
  try go_quiet (fail)
  try go_wp2_with fail
  refine (HM.out _).mono ?_
  rintro e w2 ⟨v2, rfl, hr2, hb2⟩
  have HR2 := Aside0.mk hr2
  have HB2 := Aside0.mk hb2
  clear hr2 hb2
  go_wp2
  go_ret
  refine ⟨_, rfl, ?_, ?_⟩
  · exact Kd.R_lower HR2.out HB1.out.size
  · exact HB1.out.trans (HB2.out.mono HB1.out.size)
set_option maxHeartbeats 4000000 in
set_option maxRecDepth 100000 in
theorem enc13_no2 (w : World) (mv : Value) (s : ByteArray) (hm : s.size ≤ 2147483648) (h : ∀ t, ¬ Full s 12 t) :
    Calls Tryz.prog 167 #[.agg #[], .string s, mv] w fun e w' => ∃ v x, e = .returned (.tuple #[v, .iface 141 x]) ∧ Below w.heap.size w w' := by
  by_cases hz : s.size ≤ 2147483647
  · exact enc13_no w mv s hz h
  · have d1 : ((s.size : Int) == 12) = false := beq_eq_false_iff_ne.2 (by omega)
    have d2 : ((s.size : Int) == 13) = false := beq_eq_false_iff_ne.2 (by omega)
    clear h hz
    go_enter Tryz.func167, Tryz.ntmps167
    go_wp2_with (go_at_call 96; refine (newWExc _ _).mono ?_; rintro e w' ⟨x, rfl, hb⟩)
    go_ret2
    exact ⟨_, x, rfl, (below_alloc (below_alloc (Below.refl _ w) (.cells #[] 93)) _).trans (hb.mono (by simp; omega))⟩
theorem short14 (w : World) (s : ByteArray) : Calls Tryz.prog 41 #[.int .i64 14, .string s] w fun e w' => e = .returned (.bool false) ∧ Drawn0 w w' := F.laws_odShort.calls 14 s false w (by unfold F.laws_odShort.f; rw [if_neg (by omega)])

set_option maxHeartbeats 4000000 in
set_option maxRecDepth 100000 in
theorem writ14_bad (w : World) (s u : ByteArray) (hm' : s.size ≤ 2147483647) (h : ∀ t, ¬ Full s 11 t) (hc : ∀ W : World, Calls Tryz.prog 40 #[.int .i64 14, .string s] W fun e w' => e = .returned (.tuple #[.string u, .bool false]) ∧ Below W.heap.size W w') :
    Calls Tryz.prog 24 #[.int .i64 14, .string s] w fun e w' => e = .returned (.bool true) ∧ Below w.heap.size w w' := by
  have HC := Aside0.mk hc
  have hm : s.size ≤ 2147483647 := by omega
  have HW := Aside0.mk (fun W : World => (show Calls Tryz.prog 15 #[.int .i64 14, .string s, .int .i64 0, .int .i64 20] W fun e w' => e = .returned (.tuple #[.slice none 0 0, .bool false]) ∧ Below W.heap.size W w' from by
    exact odWrite_upca_no W s 0 20 hm (by omega) (fun gm W' => enc13_no2 W' _ (z0 s) (by rw [z0_size]; omega) (fun t ht => (full_z0' ht).elim h))))
  clear h hc hm' hm
  go_enter Tryz.func24, Tryz.ntmps24
  go_wp2_with fail
  refine (HC.out _).mono ?_
  rintro e w1 ⟨rfl, hb⟩
  have HB1 := Aside0.mk hb
  clear hb
  go_wp2_with fail
  try go_quiet (fail)
  try go_wp2_with fail
  refine (HW.out _).mono ?_
  rintro e w2 ⟨rfl, hb⟩
  have HB2 := Aside0.mk (show Below w.heap.size w w2 from by
    refine HB1.out.trans ?_
    first
    | exact hb.mono HB1.out.size
    | exact (below_drew1' hb).mono HB1.out.size)
  clear hb
  go_wp2
  go_ret
  exact ⟨rfl, HB2.out⟩
set_option maxHeartbeats 4000000 in
set_option maxRecDepth 100000 in
theorem writ14_ok (w : World) (s t : ByteArray) (hm' : s.size ≤ 2147483647) (h : Full s 11 t) :
    Calls Tryz.prog 24 #[.int .i64 14, .string s] w fun e w' => e = .returned (.bool true) ∧ Below w.heap.size w w' := by
  have hsm : 11 ≤ s.size ∧ AllDig s 11 := by
    rcases h with ⟨h1, h2, _⟩ | ⟨h1, h2, _⟩
    · exact ⟨by omega, h2⟩
    · exact ⟨by omega, fun i hi => h2 i (by omega)⟩
  obtain ⟨hsm, hd7⟩ := hsm
  have hc : ∀ W : World, Calls Tryz.prog 40 #[.int .i64 14, .string s] W fun e w' => e = .returned (.tuple #[.string (ckText s 11), .bool true]) ∧ Below W.heap.size W w' := by
    intro W
    rcases h with ⟨h1, h2, _⟩ | ⟨h1, h2, h3, _⟩
    · exact odc14_own W s h1 h2
    · have := odc14_all W s h1 h2
      rwa [decide_eq_true h3] at this
  obtain ⟨u, hu⟩ : ∃ u, ckText s 11 = u := ⟨_, rfl⟩
  have hus : u.size = 12 := by rw [← hu]; exact ckText_size s 11 hsm
  have hua : AllDig u 12 := by rw [← hu]; exact ckText_all s 11 hsm hd7
  obtain ⟨t2, ht2⟩ := full_z0 h
  have hcf := code13_full ht2
  rw [code13_z0 s hsm] at hcf
  rw [hu] at hc hcf
  have hua2 : AllDig (z0 u) 13 := (allDig_z0 u 12 (by omega)).2 hua
  have hlen := code13_length (z0 u) hua2
  have hl8 := code13_last (z0 u) hua2
  obtain ⟨code, hcode⟩ : ∃ code, code13 (z0 u) = code := ⟨_, rfl⟩
  have HMOD := Aside0.mk (fun W : World => mod14 W u hus hua)
  have hfst := code13_first (z0 u)
  rw [hcode] at hlen hl8 hcf HMOD hfst
  have HW := Aside0.mk (fun W : World => odRowW_upca W s 0 20 code (by omega) (by omega) (by omega) (by omega) (by omega) (by omega) (by omega) (fun gm W' => by
    have := enc13_ok W' (.map (some gm)) (z0 s) t2 ht2
    rwa [hcf] at this))
  have HC := Aside0.mk hc
  have HLEN := Aside0.mk hlen
  have HL8 := Aside0.mk hl8
  have HF := Aside0.mk hfst
  clear h hc hm' hsm hd7 hu hus hua hua2 ht2 hcf hlen hl8 hcode hfst
  obtain ⟨RN, hRN⟩ : ∃ n, (rowOf code 0 20).length = n := ⟨_, rfl⟩
  rw [hRN] at HW
  have HRN := Aside0.mk hRN
  clear hRN
  go_enter Tryz.func24, Tryz.ntmps24
  go_wp2_with fail
  refine (HC.out _).mono ?_
  rintro e w1 ⟨rfl, hb⟩
  have HB1 := Aside0.mk hb
  clear hb
  go_wp2_with fail
  refine (short14 _ s).mono ?_
  rintro e w2 ⟨rfl, ⟨n2, rfl⟩⟩
  have HB2 := Aside0.mk (HB1.out.trans ((show Drawn0 w1 _ from ⟨n2, rfl⟩).below.mono HB1.out.size))
  clear HB1
  go_wp2_with fail
  refine (HW.out _).mono ?_
  rintro e w3 ⟨b, rfl, hbk, hb3⟩
  have HB3 := Aside0.mk (HB2.out.trans (hb3.mono HB2.out.size))
  have HBK := Aside0.mk hbk
  clear hbk hb3 HB2
  go_wp2_with fail
  refine (trim43 w3 b code (by have := HLEN.out; omega) HF.out HL8.out (by have := HLEN.out; omega) RN HRN.out HBK.out).mono ?_
  rintro e w4 ⟨v4, rfl, hv4, hb4⟩
  have HV4 := Aside0.mk hv4
  have HB4 := Aside0.mk (HB3.out.trans (hb4.mono HB3.out.size))
  clear hv4 hb4 HB3 HBK
  go_wp2_with fail
  refine (HMOD.out _).mono ?_
  rintro e w5 ⟨v5, rfl, hr5, hb5⟩
  obtain ⟨A5, c5, rfl, hc5, hC5⟩ := Kd.R_reads hr5
  have hv4 := Kd.V_below HV4.out hb5
  obtain ⟨A4, c4, rfl⟩ := Kd.V_slice hv4
  obtain ⟨_, hc4, hC4⟩ := Kd.V_reads' hv4
  have HC4 := Aside0.mk hC4
  have HC5 := Aside0.mk hC5
  have HB5 := Aside0.mk (HB4.out.trans (hb5.mono HB4.out.size))
  clear hr5 hb5 hv4 hC4 hC5 HV4 HB4
  obtain ⟨kk, hk⟩ := (same_self code (by have := HLEN.out; omega)).rounds
  have HK := Aside0.mk hk
  clear hk
  go_wp2_with fail
  refine (F.spec_ODSame.calls kk A4 c4 code A5 c5 code true _ HC4.out hc4 HC5.out hc5 HK.out).mono ?_
  rintro e w6 ⟨rfl, ⟨n6, rfl⟩⟩
  have HB6 := Aside0.mk (HB5.out.trans ((show Drawn0 w5 _ from ⟨n6, rfl⟩).below.mono HB5.out.size))
  clear HB5
  go_wp2
  go_ret
  exact ⟨rfl, HB6.out⟩
theorem lawUpcA (w : World) (s : ByteArray) :
    Calls Tryz.prog 9 #[.string s] w fun e w' => e = .returned (.bool true) ∧ Below w.heap.size w w' := by
  by_cases hz : s.size ≤ 2147483647
  · have hwr : ∀ W : World, Calls Tryz.prog 24 #[.int .i64 14, .string s] W fun e w' => e = .returned (.bool true) ∧ Below W.heap.size W w' := by
      intro W
      by_cases h : ∃ t, Full s 11 t
      · obtain ⟨t, ht⟩ := h
        exact writ14_ok W s t hz ht
      · have hn : ∀ t, ¬ Full s 11 t := fun t ht => h ⟨t, ht⟩
        by_cases h8 : s.size = 12 ∧ AllDig s 12
        · refine writ14_bad W s (ckText s 11) hz hn (fun W' => ?_)
          have := odc14_all W' s h8.1 h8.2
          rwa [decide_eq_false (fun hc => hn s (.inr ⟨h8.1, h8.2, hc, rfl⟩))] at this
        · exact writ14_bad W s ⟨#[]⟩ hz hn (fun W' => odc14_bad W' s (fun h7 => hn _ (.inl ⟨h7.1, h7.2, rfl⟩)) h8)
    have HW := Aside0.mk hwr
    have hzz : decide ((2147483647 : Int) < (s.size : Int)) = false := decide_eq_false (by omega)
    clear hwr hz
    go_enter Tryz.func9, Tryz.ntmps9
    go_wp2_with (go_at_call 24; refine (HW.out _).mono ?_; rintro e w' ⟨rfl, hb⟩)
    go_ret
    exact ⟨rfl, hb⟩
  · have hzz : decide ((2147483647 : Int) < (s.size : Int)) = true := decide_eq_true (by omega)
    clear hz
    go_enter Tryz.func9, Tryz.ntmps9
    go_wp2
    go_ret
    exact ⟨rfl, Below.refl _ _⟩
theorem walkUpcA (w : World) (s : ByteArray) {p : Prop} (_ : p) :
    Calls Tryz.prog 9 #[.string s] w fun e w' => e = .returned (.bool true) ∧ Below w.heap.size w w' := lawUpcA w s
end Go.Proofs.YthkddnmomjcdaaaGreat.B
