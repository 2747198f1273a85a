import Derived.Test.YthkddnmomjcdaaaGreatEean13
import Derived.Test.YthkddnmomjcdaaaGreatJ1
import Derived.Test.YthkddnmomjcdaaaGreatJ4
import Derived.Test.YthkddnmomjcdaaaGreatF41
namespace Go.Proofs.YthkddnmomjcdaaaGreat.B
open Go.RowKit Go.Proofs.YthkddnmomjcdaaaGreatW.PrintWords Go.Proofs.YthkddnmomjcdaaaGreatW.PrintLast Go.Proofs.YthkddnmomjcdaaaGreatW.PrintMore
set_option linter.unusedVariables false
set_option linter.unusedSimpArgs false

theorem encode_none13 (w : World) (v m : Value) (t : ByteArray) (f wd ht : Int) (h0 : t.size = 0) :
    Calls Tryz.prog 94 #[v, .string t, .int .i64 f, .int .i64 wd, .int .i64 ht, m] w fun e w' => (∃ x, e = .returned (.tuple #[.pointer none, .iface 141 x])) ∧ Below w.heap.size w w' := by
  have hlen : (t.size : Int) = 0 := by omega
  clear h0
  go_enter Tryz.func94, Tryz.ntmps94
  go_wp2_with (go_at_call 96; refine (newWExc _ _).mono ?_; rintro e w' ⟨x, rfl, hb⟩)
  go_ret2
  exact ⟨⟨_, rfl⟩, (below_alloc (Below.refl _ w) _).trans (hb.mono (by simp))⟩
set_option maxHeartbeats 2000000 in
set_option maxRecDepth 100000 in
theorem odWrite_ean13_none (w : World) (text : ByteArray) (wd mg : Int) (h0 : text.size = 0) :
    Calls Tryz.prog 15 #[.int .i64 7, .string text, .int .i64 wd, .int .i64 mg] w fun e w' => e = .returned (.tuple #[.slice none 0 0, .bool false]) ∧ Below w.heap.size w w' := by
  have hmm := @run_makeMap Tryz.prog
  have H0 := Aside0.mk h0
  clear h0
  go_enter Tryz.func15, Tryz.ntmps15
  go_wp2_with fail
  refine (writer_ean13 w).mono ?_
  rintro e w1 ⟨rfl, hw1⟩
  have hi := run_ins w1 (.iface 3 (.int .i64 mg))
  have hq := methE w.heap.size
  have hb1 : Below w.heap.size w w1 := by rw [hw1]; exact below_alloc (Below.refl _ _) _
  have hg : Blk w1 w.heap.size 106 #[.iface 93 (.agg #[]), .int .i64 9] := by rw [hw1]; exact Blk.new _ _ _
  have HB1 := Aside0.mk hb1
  have HG := Aside0.mk hg
  clear hw1 hb1 hg
  go_wp2_with fail
  have hma : Below w1.heap.size w1 (w1.alloc (.map #[⟨.int .i64 5, .iface 3 (.int .i64 mg), 0⟩] 1)) := below_alloc (Below.refl _ _) _
  refine (encode_none13 _ _ _ text _ _ _ H0.out).mono ?_
  rintro e w2 ⟨⟨x, rfl⟩, hb2⟩
  have HB2 := Aside0.mk (HB1.out.trans ((hma.mono HB1.out.size).trans (hb2.mono (Nat.le_trans HB1.out.size hma.size))))
  clear hma hb2 hi hmm hq
  go_wp2
  go_ret2
  exact ⟨rfl, HB2.out⟩

set_option maxHeartbeats 2000000 in
set_option maxRecDepth 100000 in
theorem odc7_bad (w : World) (s : ByteArray) (h1 : ¬ (s.size = 12 ∧ AllDig s 12)) (h2 : ¬ (s.size = 13 ∧ AllDig s 13)) :
    Calls Tryz.prog 40 #[.int .i64 7, .string s] w fun e w' => e = .returned (.tuple #[.string ⟨#[]⟩, .bool false]) ∧ Below w.heap.size w w' := by
  have T1 := Aside0.mk (fun W => digs63 W s 12 12 rfl (by omega) false (by simp only [Bool.false_eq_true, false_iff]; exact h1))
  have T2 := Aside0.mk (fun W => digs63 W s 13 13 rfl (by omega) false (by simp only [Bool.false_eq_true, false_iff]; exact h2))
  clear h1 h2
  go_enter Tryz.func40, Tryz.ntmps40
  go_wp2_with fail
  refine (T1.out _).mono ?_
  rintro e w1 ⟨rfl, ⟨n1, rfl⟩⟩
  go_wp2_with fail
  refine (T2.out _).mono ?_
  rintro e w2 ⟨rfl, ⟨n2, rfl⟩⟩
  go_wp2
  go_ret2
  exact ⟨rfl, (show Drawn0 w _ from by first | exact ⟨_, rfl⟩ | (repeat (first | exact Drawn0.refl _ | apply Drawn0.step))).below⟩
set_option maxHeartbeats 2000000 in
set_option maxRecDepth 100000 in
theorem odc7_own (w : World) (s : ByteArray) (h1 : s.size = 12) (h2 : AllDig s 12) :
    Calls Tryz.prog 40 #[.int .i64 7, .string s] w fun e w' => e = .returned (.tuple #[.string (ckText s 12), .bool true]) ∧ Below w.heap.size w w' := by
  have T1 := Aside0.mk (fun W => digs63 W s 12 12 rfl (by omega) true (by simp only [true_iff]; exact ⟨h1, h2⟩))
  have T3 := Aside0.mk (fun W => ck64 W (s.extract 0 12) 12 (by rw [ByteArray.size_extract]; omega) (by omega) ((allDig_extract s 12 (by omega)).2 h2))
  rw [chk_extract s 12 (by omega)] at T3
  have HS := Aside0.mk h1
  have hsi : (s.size : Int) = 12 := by omega
  clear h1 h2
  go_enter Tryz.func40, Tryz.ntmps40
  go_wp2_with fail
  refine (T1.out _).mono ?_
  rintro e w1 ⟨rfl, ⟨n1, rfl⟩⟩
  go_wp2_with fail
  refine (T3.out _).mono ?_
  rintro e w2 ⟨rfl, hb2⟩
  have HB2 := Aside0.mk ((show Drawn0 w _ from ⟨_, rfl⟩).below.trans (hb2.mono (by simp)))
  clear hb2
  obtain ⟨own, hown⟩ : ∃ x, s.extract 0 12 = x := ⟨_, rfl⟩
  obtain ⟨ck, hck⟩ : ∃ x : ByteArray, (⟨#[UInt8.ofNat (48 + chk s 12).toNat]⟩ : ByteArray) = x := ⟨_, rfl⟩
  have hos : own.size = 12 := by rw [← hown, ByteArray.size_extract]; have := HS.out; omega
  have hcs : ck.size = 1 := by rw [← hck]; rfl
  have c9 : own.size + ck.size ≤ 9223372036854775807 := by omega
  have c9b0 := eq_true c9
  have c9b1 : decide (own.size + ck.size ≤ 9223372036854775807) = true := decide_eq_true c9
  have c9b2 : (9223372036854775807 < own.size + ck.size) = False := eq_false (Nat.not_lt.2 c9)
  have HW := Aside0.mk (show ckText s 12 = own ++ ck by unfold ckText; rw [hown, hck])
  rw [hown, hck]
  clear hown hck hos hcs
  go_wp2_with fail
  first | go_quiet (fail) | skip
  all_goals try go_wp2
  go_ret2
  exact ⟨by rw [HW.out]; rfl, HB2.out.trans ((show Drawn0 w2 _ from ⟨_, rfl⟩).below.mono HB2.out.size)⟩
set_option maxHeartbeats 2000000 in
set_option maxRecDepth 100000 in
theorem odc7_all (w : World) (s : ByteArray) (h1 : s.size = 13) (h2 : AllDig s 13) :
    Calls Tryz.prog 40 #[.int .i64 7, .string s] w fun e w' => e = .returned (.tuple #[.string (ckText s 12), .bool (decide (dgt s 12 = chk s 12))]) ∧ Below w.heap.size w w' := by
  have h7 : AllDig s 12 := fun i hi => h2 i (by omega)
  have T1 := Aside0.mk (fun W => digs63 W s 12 12 rfl (by omega) false (by simp only [Bool.false_eq_true, false_iff]; omega))
  have T2 := Aside0.mk (fun W => digs63 W s 13 13 rfl (by omega) true (by simp only [true_iff]; exact ⟨h1, h2⟩))
  have T3 := Aside0.mk (fun W => ck64 W (s.extract 0 12) 12 (by rw [ByteArray.size_extract]; omega) (by omega) ((allDig_extract s 12 (by omega)).2 h7))
  rw [chk_extract s 12 (by omega)] at T3
  have HS := Aside0.mk h1
  have HA := Aside0.mk h2
  have hsi : (s.size : Int) = 13 := by omega
  clear h1 h2 h7
  go_enter Tryz.func40, Tryz.ntmps40
  go_wp2_with fail
  refine (T1.out _).mono ?_
  rintro e w1 ⟨rfl, ⟨n1, rfl⟩⟩
  go_wp2_with fail
  refine (T2.out _).mono ?_
  rintro e w2 ⟨rfl, ⟨n2, rfl⟩⟩
  go_wp2_with fail
  refine (T3.out _).mono ?_
  rintro e w2 ⟨rfl, hb2⟩
  have HB2 := Aside0.mk ((show Drawn0 w _ from by first | exact ⟨_, rfl⟩ | exact ⟨_, World.drewN_drewN _ _ _⟩).below.trans (hb2.mono (by simp)))
  clear hb2
  obtain ⟨own, hown⟩ : ∃ x, s.extract 0 12 = x := ⟨_, rfl⟩
  obtain ⟨ck, hck⟩ : ∃ x : ByteArray, (⟨#[UInt8.ofNat (48 + chk s 12).toNat]⟩ : ByteArray) = x := ⟨_, rfl⟩
  have hos : own.size = 12 := by rw [← hown, ByteArray.size_extract]; have := HS.out; omega
  have hcs : ck.size = 1 := by rw [← hck]; rfl
  have c9 : own.size + ck.size ≤ 9223372036854775807 := by omega
  have c9b0 := eq_true c9
  have c9b1 : decide (own.size + ck.size ≤ 9223372036854775807) = true := decide_eq_true c9
  have c9b2 : (9223372036854775807 < own.size + ck.size) = False := eq_false (Nat.not_lt.2 c9)
  have HCK := Aside0.mk hck
  have HW := Aside0.mk (show ckText s 12 = own ++ ck by unfold ckText; rw [hown, hck])
  rw [hown, hck]
  clear hown hck hos hcs
  go_wp2_with fail
  first | go_quiet (fail) | skip
  all_goals try go_wp2
  go_ret2
  refine ⟨?_, HB2.out.trans ((show Drawn0 w2 _ from ⟨_, rfl⟩).below.mono HB2.out.size)⟩
  rw [HW.out, ← eq_last s 12 HS.out (HA.out 12 (by omega)), HCK.out]
  rfl

theorem digs_congr (a b : ByteArray) (p : Nat) (c : Bool) (n : Nat) (h : ∀ k < n, dgt a (p + k) = dgt b (p + k)) : digs_ a p c n = digs_ b p c n := by
  induction n with
  | zero => rfl
  | succ n ih => rw [digs_next, digs_next, ih (fun k hk => h k (by omega)), h n (by omega)]
theorem left13_congr (a b : ByteArray) (h0 : dgt a 0 = dgt b 0) (n : Nat) (h : ∀ k < n, dgt a (1 + k) = dgt b (1 + k)) : left13 a n = left13 b n := by
  induction n with
  | zero => rfl
  | succ n ih => rw [left13_next, left13_next, ih (fun k hk => h k (by omega))]; unfold lix; rw [h n (by omega), h0]
theorem code13_congr (a b : ByteArray) (h : ∀ i < 13, dgt a i = dgt b i) : code13 a = code13 b := by
  unfold code13 mid13 pre13
  rw [left13_congr a b (h 0 (by omega)) 6 (fun k hk => h _ (by omega)), digs_congr a b 7 true 6 (fun k hk => h _ (by omega))]
theorem code13_full {s t : ByteArray} (h : Full s 12 t) : code13 t = code13 (ckText s 12) := by
  rcases h with ⟨h1, h2, rfl⟩ | ⟨h1, h2, h3, rfl⟩
  · rfl
  · refine code13_congr _ _ (fun i hi => ?_)
    by_cases e : i = 12
    · subst e; rw [ckText_last t 12 (by omega), h3]
    · rw [ckText_dgt t 12 i (by omega) (by omega)]
theorem code13_first (t : ByteArray) : rdOf false (code13 t) 0 = true := rfl
theorem code13_last (t : ByteArray) (h : AllDig t 13) : rdOf false (code13 t) ((code13 t).length - 1 : Int) = true := by
  rw [code13_length t h]
  unfold rdOf code13
  rw [List.getD_eq_getElem?_getD, List.getElem?_append_right (by rw [mid13_length t h 6 (by omega)]; decide), mid13_length t h 6 (by omega)]
  rfl
theorem short7 (w : World) (s : ByteArray) : Calls Tryz.prog 41 #[.int .i64 7, .string s] w fun e w' => e = .returned (.bool false) ∧ Drawn0 w w' := F.laws_odShort.calls 7 s false w (by unfold F.laws_odShort.f; rw [if_neg (by omega)])

set_option maxHeartbeats 4000000 in
set_option maxRecDepth 100000 in
theorem writ13_bad (w : World) (s u : ByteArray) (hm : s.size ≤ 2147483647) (h : ∀ t, ¬ Full s 12 t) (hc : ∀ W : World, Calls Tryz.prog 40 #[.int .i64 7, .string s] W fun e w' => e = .returned (.tuple #[.string u, .bool false]) ∧ Below W.heap.size W w') :
    Calls Tryz.prog 24 #[.int .i64 7, .string s] w fun e w' => e = .returned (.bool true) ∧ Below w.heap.size w w' := by
  have HC := Aside0.mk hc
  have HW := Aside0.mk (fun W : World => (show Calls Tryz.prog 15 #[.int .i64 7, .string s, .int .i64 0, .int .i64 20] W fun e w' => e = .returned (.tuple #[.slice none 0 0, .bool false]) ∧ Below W.heap.size W w' from by
    by_cases h0 : s.size = 0
    · exact odWrite_ean13_none W s 0 20 h0
    · exact odWrite_ean13_no W s 0 20 (by omega) (by omega) (fun gm W' => enc13_no W' _ s hm h)))
  clear h hc hm
  go_enter Tryz.func24, Tryz.ntmps24
  go_wp2_with fail
  refine (HC.out _).mono ?_
  rintro e w1 ⟨rfl, hb⟩
  have HB1 := Aside0.mk hb
  clear hb
  go_wp2_with fail
  try go_quiet (fail)
  try go_wp2_with fail
  refine (HW.out _).mono ?_
  rintro e w2 ⟨rfl, hb⟩
  have HB2 := Aside0.mk (show Below w.heap.size w w2 from by
    refine HB1.out.trans ?_
    first
    | exact hb.mono HB1.out.size
    | exact (below_drew1' hb).mono HB1.out.size)
  clear hb
  go_wp2
  go_ret
  exact ⟨rfl, HB2.out⟩
set_option maxHeartbeats 4000000 in
set_option maxRecDepth 100000 in
theorem writ13_ok (w : World) (s t : ByteArray) (hm : s.size ≤ 2147483647) (h : Full s 12 t) :
    Calls Tryz.prog 24 #[.int .i64 7, .string s] w fun e w' => e = .returned (.bool true) ∧ Below w.heap.size w w' := by
  have hsm : 12 ≤ s.size ∧ AllDig s 12 := by
    rcases h with ⟨h1, h2, _⟩ | ⟨h1, h2, _⟩
    · exact ⟨by omega, h2⟩
    · exact ⟨by omega, fun i hi => h2 i (by omega)⟩
  obtain ⟨hsm, hd7⟩ := hsm
  have hc : ∀ W : World, Calls Tryz.prog 40 #[.int .i64 7, .string s] W fun e w' => e = .returned (.tuple #[.string (ckText s 12), .bool true]) ∧ Below W.heap.size W w' := by
    intro W
    rcases h with ⟨h1, h2, _⟩ | ⟨h1, h2, h3, _⟩
    · exact odc7_own W s h1 h2
    · have := odc7_all W s h1 h2
      rwa [decide_eq_true h3] at this
  obtain ⟨u, hu⟩ : ∃ u, ckText s 12 = u := ⟨_, rfl⟩
  have hus : u.size = 13 := by rw [← hu]; exact ckText_size s 12 hsm
  have hua : AllDig u 13 := by rw [← hu]; exact ckText_all s 12 hsm hd7
  have hcf := code13_full h
  rw [hu] at hc hcf
  have hlen := code13_length u hua
  have hl8 := code13_last u hua
  obtain ⟨code, hcode⟩ : ∃ code, code13 u = code := ⟨_, rfl⟩
  have HMOD := Aside0.mk (fun W : World => mod13 W u hus hua)
  have hfst := code13_first u
  rw [hcode] at hlen hl8 hcf HMOD hfst
  have HW := Aside0.mk (fun W : World => odRowW_ean13 W s 0 20 code (by omega) (by omega) (by omega) (by omega) (by omega) (by omega) (by omega) (fun gm W' => by
    have := enc13_ok W' (.map (some gm)) s t h
    rwa [hcf] at this))
  have HC := Aside0.mk hc
  have HLEN := Aside0.mk hlen
  have HL8 := Aside0.mk hl8
  have HF := Aside0.mk hfst
  clear h hc hm hsm hd7 hu hus hua hcf hlen hl8 hcode hfst
  obtain ⟨RN, hRN⟩ : ∃ n, (rowOf code 0 20).length = n := ⟨_, rfl⟩
  rw [hRN] at HW
  have HRN := Aside0.mk hRN
  clear hRN
  go_enter Tryz.func24, Tryz.ntmps24
  go_wp2_with fail
  refine (HC.out _).mono ?_
  rintro e w1 ⟨rfl, hb⟩
  have HB1 := Aside0.mk hb
  clear hb
  go_wp2_with fail
  refine (short7 _ s).mono ?_
  rintro e w2 ⟨rfl, ⟨n2, rfl⟩⟩
  have HB2 := Aside0.mk (HB1.out.trans ((show Drawn0 w1 _ from ⟨n2, rfl⟩).below.mono HB1.out.size))
  clear HB1
  go_wp2_with fail
  refine (HW.out _).mono ?_
  rintro e w3 ⟨b, rfl, hbk, hb3⟩
  have HB3 := Aside0.mk (HB2.out.trans (hb3.mono HB2.out.size))
  have HBK := Aside0.mk hbk
  clear hbk hb3 HB2
  go_wp2_with fail
  refine (trim43 w3 b code (by have := HLEN.out; omega) HF.out HL8.out (by have := HLEN.out; omega) RN HRN.out HBK.out).mono ?_
  rintro e w4 ⟨v4, rfl, hv4, hb4⟩
  have HV4 := Aside0.mk hv4
  have HB4 := Aside0.mk (HB3.out.trans (hb4.mono HB3.out.size))
  clear hv4 hb4 HB3 HBK
  go_wp2_with fail
  refine (HMOD.out _).mono ?_
  rintro e w5 ⟨v5, rfl, hr5, hb5⟩
  obtain ⟨A5, c5, rfl, hc5, hC5⟩ := Kd.R_reads hr5
  have hv4 := Kd.V_below HV4.out hb5
  obtain ⟨A4, c4, rfl⟩ := Kd.V_slice hv4
  obtain ⟨_, hc4, hC4⟩ := Kd.V_reads' hv4
  have HC4 := Aside0.mk hC4
  have HC5 := Aside0.mk hC5
  have HB5 := Aside0.mk (HB4.out.trans (hb5.mono HB4.out.size))
  clear hr5 hb5 hv4 hC4 hC5 HV4 HB4
  obtain ⟨kk, hk⟩ := (same_self code (by have := HLEN.out; omega)).rounds
  have HK := Aside0.mk hk
  clear hk
  go_wp2_with fail
  refine (F.spec_ODSame.calls kk A4 c4 code A5 c5 code true _ HC4.out hc4 HC5.out hc5 HK.out).mono ?_
  rintro e w6 ⟨rfl, ⟨n6, rfl⟩⟩
  have HB6 := Aside0.mk (HB5.out.trans ((show Drawn0 w5 _ from ⟨n6, rfl⟩).below.mono HB5.out.size))
  clear HB5
  go_wp2
  go_ret
  exact ⟨rfl, HB6.out⟩
theorem lawEan13 (w : World) (s : ByteArray) :
    Calls Tryz.prog 6 #[.string s] w fun e w' => e = .returned (.bool true) ∧ Below w.heap.size w w' := by
  by_cases hz : s.size ≤ 2147483647
  · have hwr : ∀ W : World, Calls Tryz.prog 24 #[.int .i64 7, .string s] W fun e w' => e = .returned (.bool true) ∧ Below W.heap.size W w' := by
      intro W
      by_cases h : ∃ t, Full s 12 t
      · obtain ⟨t, ht⟩ := h
        exact writ13_ok W s t hz ht
      · have hn : ∀ t, ¬ Full s 12 t := fun t ht => h ⟨t, ht⟩
        by_cases h8 : s.size = 13 ∧ AllDig s 13
        · refine writ13_bad W s (ckText s 12) hz hn (fun W' => ?_)
          have := odc7_all W' s h8.1 h8.2
          rwa [decide_eq_false (fun hc => hn s (.inr ⟨h8.1, h8.2, hc, rfl⟩))] at this
        · exact writ13_bad W s ⟨#[]⟩ hz hn (fun W' => odc7_bad W' s (fun h7 => hn _ (.inl ⟨h7.1, h7.2, rfl⟩)) h8)
    have HW := Aside0.mk hwr
    have hzz : decide ((2147483647 : Int) < (s.size : Int)) = false := decide_eq_false (by omega)
    clear hwr hz
    go_enter Tryz.func6, Tryz.ntmps6
    go_wp2_with (go_at_call 24; refine (HW.out _).mono ?_; rintro e w' ⟨rfl, hb⟩)
    go_ret
    exact ⟨rfl, hb⟩
  · have hzz : decide ((2147483647 : Int) < (s.size : Int)) = true := decide_eq_true (by omega)
    clear hz
    go_enter Tryz.func6, Tryz.ntmps6
    go_wp2
    go_ret
    exact ⟨rfl, Below.refl _ _⟩
theorem walkEan13 (w : World) (s : ByteArray) {p : Prop} (_ : p) :
    Calls Tryz.prog 6 #[.string s] w fun e w' => e = .returned (.bool true) ∧ Below w.heap.size w w' := lawEan13 w s
end Go.Proofs.YthkddnmomjcdaaaGreat.B
