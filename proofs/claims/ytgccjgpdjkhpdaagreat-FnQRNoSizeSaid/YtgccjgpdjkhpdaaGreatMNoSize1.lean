import Derived.Test.YtgccjgpdjkhpdaaGreatMNoSize0
namespace Go.Proofs.YtgccjgpdjkhpdaaGreat.B
open Go.RowKit Go.Proofs.YtgccjgpdjkhpdaaGreatW.PrintWords Go.Proofs.YtgccjgpdjkhpdaaGreatW.PrintLast Go.Proofs.YtgccjgpdjkhpdaaGreatW.PrintMore
set_option linter.unusedVariables false
set_option linter.unusedSimpArgs false

/-! ### The field's tables -/
/-- make([]int, n) -/
theorem make_int (n : Nat) (h : n ≤ 1000000000) (w : World) : (Instr.makeSlice 93 (.int .i64 (n : Int)) (.int .i64 (n : Int))).run Tryz.prog w = .ok (.slice (some ⟨w.heap.size, 0, none⟩) n n) (w.alloc (.cells (nums .i64 (ints (List.replicate n 0))).toArray 3)) := by
  obtain ⟨i, hi, hz, hs, hb⟩ := info_parts info3i
  have := run_make_rowN (P := Tryz.prog) 93 3 i (.int .i64 0) Tryz.underlying93 hi hz .i64 .i64 n n (Nat.le_refl _) (by rw [hb]; omega) (by omega) w
  have e : madeCells (Value.int .i64 0).cells (n * 1) = (nums .i64 (ints (List.replicate n 0))).toArray := by
    apply Array.toList_inj.1
    rw [Nat.mul_one]
    exact (toList_madeCells_one _ _).trans (by simp [nums, ints])
  rw [this, hs, e]
theorem getD_set_nat (xs : List Nat) (i j v : Nat) (hi : i < xs.length) : (xs.set i v).getD j 0 = if i = j then v else xs.getD j 0 := by
  rw [List.getD_eq_getElem?_getD, List.getD_eq_getElem?_getD, List.getElem?_set]
  by_cases e : i = j
  · subst e; simp [hi]
  · simp [e]
def expsTo (m p n i : Nat) : List Nat := (List.range i).map (gx m p) ++ List.replicate (n - i) 0
theorem expsTo_len (m p n i : Nat) (h : i ≤ n) : (expsTo m p n i).length = n := by unfold expsTo; simp; omega
theorem expsTo_set (m p n i : Nat) (h : i < n) : (expsTo m p n i).set i (gx m p i) = expsTo m p n (i + 1) := by
  unfold expsTo
  have hl : ((List.range i).map (gx m p)).length = i := by simp
  rw [List.set_append_right _ _ (by omega), hl, Nat.sub_self, show n - i = (n - (i + 1)) + 1 by omega, List.replicate_succ, List.set_cons_zero, List.range_succ, List.map_append, List.append_assoc]
  rfl
def exps (m p : Nat) : List Nat := (List.range (2 ^ m)).map (gx m p)
theorem expsTo_all (m p : Nat) : expsTo m p (2 ^ m) (2 ^ m) = exps m p := by unfold expsTo exps; simp
theorem exps_len (m p : Nat) : (exps m p).length = 2 ^ m := by simp [exps]
theorem exps_get (m p i : Nat) (h : i < 2 ^ m) : (exps m p).getD i 0 = gx m p i := by
  unfold exps
  rw [List.getD_eq_getElem?_getD, List.getElem?_map, List.getElem?_range h]
  rfl
/-- The logarithms of the first n powers. -/
structure Logs (m p n : Nat) (ls : List Nat) : Prop where
  len : ls.length = 2 ^ m
  log : ∀ i, i < n → ls.getD (gx m p i) 0 = i
theorem Logs.step {m p n : Nat} {ls : List Nat} (F : Fld m p) (hP : Prim m p) (h : Logs m p n ls) (hn : n < 2 ^ m - 1) : Logs m p (n + 1) (ls.set (gx m p n) n) := by
  refine ⟨by rw [List.length_set, h.len], fun i hi => ?_⟩
  rw [getD_set_nat _ _ _ _ (by rw [h.len]; exact gx_lt F n)]
  by_cases e : i = n
  · subst e; rw [if_pos rfl]
  · rw [if_neg, h.log i (by omega)]
    intro he
    exact e (gx_inj F hP i n (by omega) hn he.symm)
/-- The field at gf: its powers, its logarithms, its two small polynomials. -/
def GFAt (w : World) (gf m p b : Nat) : Prop := ∃ ge gl zp op ls, Blk w gf 233 #[.slice (some ⟨ge, 0, none⟩) (2 ^ m) (2 ^ m), .slice (some ⟨gl, 0, none⟩) (2 ^ m) (2 ^ m), .pointer (some ⟨zp, 0, none⟩), .pointer (some ⟨op, 0, none⟩), .int .i64 ((2 ^ m : Nat) : Int), .int .i64 (p : Int), .int .i64 (b : Int)] ∧
  IBlk w ge (exps m p) ∧ IBlk w gl ls ∧ Logs m p (2 ^ m - 1) ls ∧ PolyAt w zp gf [0] ∧ PolyAt w op gf [1]
theorem GFAt.below {w w' : World} {gf m p b B : Nat} (h : GFAt w gf m p b) (hb : Below B w w') (hB : w.heap.size ≤ B) : GFAt w' gf m p b := by
  obtain ⟨ge, gl, zp, op, ls, h1, h2, h3, h4, h5, h6⟩ := h
  exact ⟨ge, gl, zp, op, ls, h1.below hb (by have := h1.lt; omega), Blk.below h2 hb (by have := Blk.lt h2; omega), Blk.below h3 hb (by have := Blk.lt h3; omega), h4, h5.below hb hB, h6.below hb hB⟩
theorem double_small {m p x : Nat} (F : Fld m p) (hx : x < 2 ^ m) (h : 2 * x < 2 ^ m) : gl m p x = 2 * x := by
  unfold gl
  have hb : x.testBit (m - 1) = false := by
    apply Nat.testBit_lt_two_pow
    have : 2 ^ m = 2 * 2 ^ (m - 1) := by rw [← Nat.pow_succ']; congr 1; have := F.one; omega
    omega
  rw [hb, if_neg (by simp), Nat.xor_zero]
theorem double_great {m p x : Nat} (F : Fld m p) (hx : x < 2 ^ m) (h : 2 ^ m ≤ 2 * x) : gl m p x = 2 * x ^^^ p := by
  unfold gl
  have e : 2 ^ m = 2 * 2 ^ (m - 1) := by rw [← Nat.pow_succ']; congr 1; have := F.one; omega
  have hb : x.testBit (m - 1) = true := by
    rw [Nat.testBit_eq_decide_div_mod_eq, decide_eq_true_eq]
    have h2 : x / 2 ^ (m - 1) = 1 := by
      apply Nat.div_eq_of_lt_le <;> omega
    rw [h2]
  rw [hb, if_pos rfl]

/-! ### A field is made -/
theorem i64_xor_nat (a b : Nat) (ha : a < 4294967296) (hb : b < 4294967296) : Go.bits .xor .i64 (a : Int) (b : Int) = ((a ^^^ b : Nat) : Int) := by
  have ha' : a % 2 ^ IntKind.i64.bits = a := Nat.mod_eq_of_lt (Nat.lt_of_lt_of_le ha (by decide))
  have hb' : b % 2 ^ IntKind.i64.bits = b := Nat.mod_eq_of_lt (Nat.lt_of_lt_of_le hb (by decide))
  have hx : a ^^^ b < 2 ^ 32 := Nat.xor_lt_two_pow ha hb
  simp only [Go.bits, BitVec.ofInt_natCast, BitVec.toNat_xor, BitVec.toNat_ofNat, ha', hb']
  rw [IntKind.wrap_i64]
  omega
set_option maxHeartbeats 4000000 in
theorem newGF (w : World) (m p b : Nat) (F : Fld m p) (hP : Prim m p) (hm : m ≤ 12) (hb : b ≤ 1) :
    Calls Tryz.prog 124 #[.int .i64 (p : Int), .int .i64 ((2 ^ m : Nat) : Int), .int .i64 (b : Int)] w fun e w' => ∃ gf, e = .returned (.pointer (some ⟨gf, 0, none⟩)) ∧ w.heap.size ≤ gf ∧ GFAt w' gf m p b ∧ Below w.heap.size w w' := by
  obtain ⟨N, hN⟩ : ∃ N, 2 ^ m = N := ⟨_, rfl⟩
  have hN1 : N ≤ 4096 := by rw [← hN]; exact Nat.le_trans (Nat.pow_le_pow_right (by omega) hm) (by decide)
  have hN2 : 2 ≤ N := by rw [← hN]; exact Nat.le_trans (by decide : 2 ≤ 2 ^ 1) (Nat.pow_le_pow_right (by omega) F.one)
  have hp1 : p ≤ 8192 := by have := F.hi; rw [Nat.pow_succ, hN] at this; omega
  rw [hN]
  have HN := Aside0.mk hN
  have HF := Aside0.mk F
  have HP := Aside0.mk hP
  clear hN F hP
  have mk1 := make_int N (by omega)
  go_enter Tryz.func124, Tryz.ntmps124
  go_wp2
  obtain ⟨B0, hB0⟩ : ∃ B0, B0 = w.heap.size := ⟨_, rfl⟩
  rw [← hB0]
  obtain ⟨w2, hw2⟩ : ∃ w2, w2 = ((w.alloc (.cells #[.slice none 0 0, .slice none 0 0, .pointer none, .pointer none, .int .i64 (N : Int), .int .i64 (p : Int), .int .i64 (b : Int)] 233)).alloc (.cells (nums .i64 (ints (List.replicate N 0))).toArray 3)).alloc (.cells (nums .i64 (ints (List.replicate N 0))).toArray 3) := ⟨_, rfl⟩
  rw [← hw2]
  have HBG := Aside0.mk (show Blk w2 B0 233 #[.slice none 0 0, .slice none 0 0, .pointer none, .pointer none, .int .i64 (N : Int), .int .i64 (p : Int), .int .i64 (b : Int)] by rw [hw2, hB0]; exact ((Blk.new w _ _).alloc _).alloc _)
  have HBE := Aside0.mk (show IBlk w2 (B0 + 1) (List.replicate N 0) by
    rw [hw2, hB0]
    have h := Blk.new (w.alloc (.cells #[.slice none 0 0, .slice none 0 0, .pointer none, .pointer none, .int .i64 (N : Int), .int .i64 (p : Int), .int .i64 (b : Int)] 233)) 3 (nums .i64 (ints (List.replicate N 0))).toArray
    have h2 := h.alloc (.cells (nums .i64 (ints (List.replicate N 0))).toArray 3)
    unfold IBlk
    simpa using h2)
  have HBL := Aside0.mk (show IBlk w2 (B0 + 1 + 1) (List.replicate N 0) by
    rw [hw2, hB0]
    have h := Blk.new ((w.alloc (.cells #[.slice none 0 0, .slice none 0 0, .pointer none, .pointer none, .int .i64 (N : Int), .int .i64 (p : Int), .int .i64 (b : Int)] 233)).alloc (.cells (nums .i64 (ints (List.replicate N 0))).toArray 3)) 3 (nums .i64 (ints (List.replicate N 0))).toArray
    unfold IBlk
    simpa using h)
  have HBW := Aside0.mk (show Below B0 w w2 by rw [hw2, hB0]; exact below_alloc (below_alloc (below_alloc (Below.refl _ _) _) _) _)
  have HB0 := Aside0.mk hB0
  clear hw2 hB0 mk1
  go_loopw [10, 11] (fun vx vi wr => ∃ i x : Nat, i ≤ N ∧ vi = .int .i64 (i : Int) ∧ vx = .int .i64 (x : Int) ∧ x < N ∧ Aside0 (x = gx m p i) ∧ Aside0 (IBlk wr (B0 + 1) (expsTo m p N i)) ∧ Aside0 (Turn w2 wr (B0 + 1))) (fun _ vi _ => (N - intOf vi).toNat)
  case atStart => exact ⟨0, 1, by omega, rfl, rfl, by omega, ⟨rfl⟩, ⟨by have := HBE.out; exact this⟩, ⟨Turn.refl _ _⟩⟩
  case round =>
    obtain ⟨i, x, hi, rfl, rfl, hx, HX, HE, HT⟩ := hrel
    by_cases hlt : i < N
    · have hel := expsTo_len m p N i (by omega)
      have k1 := HE.out.cell i (by omega)
      have k2 : wr.frozen? ⟨B0 + 1, i, none⟩ = false := Blk.frozen HE.out i
      obtain ⟨y, hy⟩ : ∃ y, (expsTo m p N i).getD i 0 = y := ⟨_, rfl⟩
      rw [hy] at k1
      have hgl := gl_lt HF.out x (by rw [HN.out]; omega)
      have hsucc : gl m p x = gx m p (i + 1) := by rw [gx_succ, ← HX.out]
      have hset : IBlk (wr.setCell ⟨B0 + 1, i, none⟩ (.int .i64 (x : Int))) (B0 + 1) (expsTo m p N (i + 1)) := by
        rw [← expsTo_set m p N i hlt, ← HX.out]
        exact HE.out.set i x
      have hT2 : Turn w2 (wr.setCell ⟨B0 + 1, i, none⟩ (.int .i64 (x : Int))) (B0 + 1) := HT.out.trans (Turn.set _ _ _ _)
      rw [HN.out] at hgl
      obtain ⟨z, hz⟩ : ∃ z, gl m p x = z := ⟨_, rfl⟩
      rw [hz] at hgl hsucc
      have HS := Aside0.mk hsucc
      have HSET := Aside0.mk hset
      have HT2 := Aside0.mk hT2
      have HZ := Aside0.mk hz
      clear hel hy hsucc hz hset hT2
      by_cases hsm : 2 * x < N
      · have hzx : 2 * x = z := by rw [← HZ.out, double_small HF.out (by rw [HN.out]; omega) (by rw [HN.out]; omega)]
        have hzi : (x : Int) * 2 = (z : Int) := by omega
        have hzb : decide ((z : Int) ≥ (N : Int)) = false := decide_eq_false (by omega)
        clear hzx
        go_wp2
        go_roundw
        case rel => exact ⟨i + 1, z, by omega, by go_num, rfl, hgl, HS, HSET, HT2⟩
        case measure => simp [intOf]; omega
      · have hzx : 2 * x ^^^ p = z := by rw [← HZ.out, double_great HF.out (by rw [HN.out]; omega) (by rw [HN.out]; omega)]
        have hxr : Go.bits .xor .i64 ((x : Int) * 2) (p : Int) = (z : Int) := by
          have := i64_xor_nat (2 * x) p (by omega) (by omega)
          rw [hzx] at this
          rw [← this]
          congr 1
          omega
        have had : Go.bits .and .i64 (z : Int) ((N : Int) - 1) = (z : Int) := by
          have := i64_and_nat z (N - 1) (by omega) (by omega)
          rw [show ((N - 1 : Nat) : Int) = (N : Int) - 1 by omega] at this
          rw [this, ← HN.out, Nat.and_two_pow_sub_one_eq_mod, HN.out, Nat.mod_eq_of_lt hgl]
        clear hzx
        go_wp2
        go_roundw
        case rel => exact ⟨i + 1, z, by omega, by go_num, rfl, hgl, HS, HSET, HT2⟩
        case measure => simp [intOf]; omega
    · have : i = N := by omega
      subst this
      go_wp2
      have HEall := Aside0.mk (show IBlk wr (B0 + 1) (exps m p) by have := HE.out; rw [← HN.out, expsTo_all] at this; exact this)
      have HBL2 := Aside0.mk (show IBlk wr (B0 + 1 + 1) (List.replicate i 0) from HT.out.blk HBL.out (by omega))
      obtain ⟨w3, rfl⟩ : ∃ w3 : World, w3 = wr := ⟨_, rfl⟩
      go_loopw [12] (fun vi w4 => ∃ j : Nat, ∃ ls, j ≤ i - 1 ∧ vi = .int .i64 (j : Int) ∧ Aside0 (IBlk w4 (B0 + 1 + 1) ls) ∧ Aside0 (Logs m p j ls) ∧ Aside0 (Turn w3 w4 (B0 + 1 + 1))) (fun vi _ => (i - intOf vi).toNat)
      case atStart => exact ⟨0, _, by omega, rfl, HBL2, ⟨⟨by rw [List.length_replicate, HN.out], fun _ h => by omega⟩⟩, ⟨Turn.refl _ _⟩⟩
      case round =>
        obtain ⟨j, ls, hj, rfl, HL, HLG, HT4⟩ := hrel
        by_cases hltj : j < i - 1
        · have hge : IBlk wr (B0 + 1) (exps m p) := HT4.out.blk HEall.out (by omega)
          have k1 := hge.cell j (by rw [exps_len, HN.out]; omega)
          rw [exps_get m p j (by rw [HN.out]; omega)] at k1
          have hgl := gx_lt HF.out j
          rw [HN.out] at hgl
          obtain ⟨x, hx⟩ : ∃ x, gx m p j = x := ⟨_, rfl⟩
          rw [hx] at k1 hgl
          have k2 := HL.out.cell x (by rw [HLG.out.len, HN.out]; omega)
          have k3 : wr.frozen? ⟨B0 + 1 + 1, x, none⟩ = false := Blk.frozen HL.out x
          have HSL := Aside0.mk (HLG.out.step HF.out HP.out (by rw [HN.out]; omega))
          rw [hx] at HSL
          have HSET := Aside0.mk (HL.out.set x j)
          have HT5 := Aside0.mk (HT4.out.trans (Turn.set wr (B0 + 1 + 1) x (.int .i64 (j : Int))))
          clear hge hx
          go_wp2
          go_roundw
          case rel => exact ⟨j + 1, _, by omega, by go_num, HSET, HSL, HT5⟩
          case measure => simp [intOf]; omega
        · have : j = i - 1 := by omega
          subst this
          have hwrap : ((i - 1 : Nat) : Int) = (i : Int) - 1 := by omega
          have hbg : Blk wr B0 233 #[.slice none 0 0, .slice none 0 0, .pointer none, .pointer none, .int .i64 (i : Int), .int .i64 (p : Int), .int .i64 (b : Int)] := HT4.out.blk (HT.out.blk HBG.out (by omega)) (by omega)
          have c0 := hbg.cell 0
          have c1 := hbg.cell 1
          have f0 := hbg.frozen 0
          have f1 := hbg.frozen 1
          have HBG5 := Aside0.mk hbg
          clear hbg
          go_wp2_with fail
          obtain ⟨w5, hw5⟩ : ∃ w5, w5 = (wr.setCell ⟨B0, 0, none⟩ (.slice (some ⟨B0 + 1, 0, none⟩) i i)).setCell ⟨B0, 1, none⟩ (.slice (some ⟨B0 + 1 + 1, 0, none⟩) i i) := ⟨_, rfl⟩
          have HT5 := Aside0.mk (show Turn wr w5 B0 by rw [hw5]; exact (Turn.set _ _ _ _).trans (Turn.set _ _ _ _))
          have HG5 := Aside0.mk (show Blk w5 B0 233 #[.slice (some ⟨B0 + 1, 0, none⟩) i i, .slice (some ⟨B0 + 1 + 1, 0, none⟩) i i, .pointer none, .pointer none, .int .i64 (i : Int), .int .i64 (p : Int), .int .i64 (b : Int)] by
            rw [hw5]
            exact blk_set (blk_set HBG5.out 0 _) 1 _)
          rw [← hw5]
          have hsz : wr.heap.size = w5.heap.size := HT5.out.size.symm
          rw [hsz]
          clear hw5 hsz c0 c1 f0 f1
          have hb6 := Aside0.mk (below_alloc (Below.refl w5.heap.size w5) (.cells #[.int .i64 0] 3))
          refine (newPoly _ B0 w5.heap.size 0 1 [0] (IRow.whole (show IBlk (w5.alloc (.cells (nums .i64 (ints [0])).toArray 3)) w5.heap.size [0] from Blk.new w5 3 (nums .i64 (ints [0])).toArray)) (by simp) (by simp) (by simp)).mono ?_
          rintro e w7 ⟨zp, rfl, hzp, hPZ, hB7⟩
          have hs6 : w5.heap.size + 1 = (w5.alloc (.cells #[.int .i64 0] 3)).heap.size := by simp
          have HB57 := Aside0.mk (show Below w5.heap.size w5 w7 from hb6.out.trans (hB7.mono (by simp)))
          have hG7 : Blk w7 B0 233 #[.slice (some ⟨B0 + 1, 0, none⟩) i i, .slice (some ⟨B0 + 1 + 1, 0, none⟩) i i, .pointer none, .pointer none, .int .i64 (i : Int), .int .i64 (p : Int), .int .i64 (b : Int)] := HG5.out.below HB57.out HG5.out.lt
          have c2 := hG7.cell 2
          have f2 := hG7.frozen 2
          have hzp' : w5.heap.size < zp := by have : (w5.alloc (.cells #[.int .i64 0] 3)).heap.size ≤ zp := hzp; omega
          have HPZ := Aside0.mk hPZ
          have HG7 := Aside0.mk hG7
          have HZP := Aside0.mk hzp'
          clear hPZ hB7 hzp hs6 hG7 hzp'
          go_wp2_with fail
          obtain ⟨w8, hw8⟩ : ∃ w8, w8 = w7.setCell ⟨B0, 2, none⟩ (.pointer (some ⟨zp, 0, none⟩)) := ⟨_, rfl⟩
          have HT8 := Aside0.mk (show Turn w7 w8 B0 by rw [hw8]; exact Turn.set _ _ _ _)
          have HG8 := Aside0.mk (show Blk w8 B0 233 #[.slice (some ⟨B0 + 1, 0, none⟩) i i, .slice (some ⟨B0 + 1 + 1, 0, none⟩) i i, .pointer (some ⟨zp, 0, none⟩), .pointer none, .int .i64 (i : Int), .int .i64 (p : Int), .int .i64 (b : Int)] by
            rw [hw8]
            exact blk_set HG7.out 2 _)
          rw [← hw8]
          have hsz : w7.heap.size = w8.heap.size := HT8.out.size.symm
          rw [hsz]
          clear hw8 hsz c2 f2
          have hb9 := Aside0.mk (below_alloc (Below.refl w8.heap.size w8) (.cells #[.int .i64 1] 3))
          refine (newPoly _ B0 w8.heap.size 0 1 [1] (IRow.whole (show IBlk (w8.alloc (.cells (nums .i64 (ints [1])).toArray 3)) w8.heap.size [1] from Blk.new w8 3 (nums .i64 (ints [1])).toArray)) (by simp) (by simp) (by simp)).mono ?_
          rintro e w9 ⟨op, rfl, hop, hPO, hB9⟩
          have hs9 : w8.heap.size + 1 = (w8.alloc (.cells #[.int .i64 1] 3)).heap.size := by simp
          have HB89 := Aside0.mk (show Below w8.heap.size w8 w9 from hb9.out.trans (hB9.mono (by simp)))
          have hG9 : Blk w9 B0 233 #[.slice (some ⟨B0 + 1, 0, none⟩) i i, .slice (some ⟨B0 + 1 + 1, 0, none⟩) i i, .pointer (some ⟨zp, 0, none⟩), .pointer none, .int .i64 (i : Int), .int .i64 (p : Int), .int .i64 (b : Int)] := HG8.out.below HB89.out HG8.out.lt
          have c3 := hG9.cell 3
          have f3 := hG9.frozen 3
          have hop' : w8.heap.size < op := by have : (w8.alloc (.cells #[.int .i64 1] 3)).heap.size ≤ op := hop; omega
          have HPO := Aside0.mk hPO
          have HG9 := Aside0.mk hG9
          have HOP := Aside0.mk hop'
          clear hPO hB9 hop hs9 hG9 hop'
          go_wp2_with fail
          go_ret
          obtain ⟨wz, hwz⟩ : ∃ wz, wz = w9.setCell ⟨B0, 3, none⟩ (.pointer (some ⟨op, 0, none⟩)) := ⟨_, rfl⟩
          have hTz : Turn w9 wz B0 := by rw [hwz]; exact Turn.set _ _ _ _
          have hGz : Blk wz B0 233 #[.slice (some ⟨B0 + 1, 0, none⟩) i i, .slice (some ⟨B0 + 1 + 1, 0, none⟩) i i, .pointer (some ⟨zp, 0, none⟩), .pointer (some ⟨op, 0, none⟩), .int .i64 (i : Int), .int .i64 (p : Int), .int .i64 (b : Int)] := by
            rw [hwz]
            exact blk_set HG9.out 3 _
          rw [← hwz]
          have sB : B0 = w.heap.size := HB0.out
          have s2 : wr.heap.size = w3.heap.size := HT4.out.size
          have s5 : w5.heap.size = wr.heap.size := HT5.out.size
          have s57 : w5.heap.size ≤ w7.heap.size := HB57.out.size
          have s78 : w8.heap.size = w7.heap.size := HT8.out.size
          have s89 : w8.heap.size ≤ w9.heap.size := HB89.out.size
          have hT9 := (Turn.set w9 B0 3 (.pointer (some ⟨op, 0, none⟩)))
          rw [← hwz] at hT9
          have lBE : B0 + 1 < wr.heap.size := Blk.lt (HT4.out.blk HEall.out (by omega) : IBlk wr (B0 + 1) (exps m p))
          have lBL : B0 + 1 + 1 < wr.heap.size := Blk.lt HL.out
          have kE : IBlk wz (B0 + 1) (exps m p) := by
            have a4 : IBlk wr (B0 + 1) (exps m p) := HT4.out.blk HEall.out (by omega)
            have a5 : IBlk w5 (B0 + 1) (exps m p) := HT5.out.blk a4 (by omega)
            have a7 : IBlk w7 (B0 + 1) (exps m p) := Blk.below a5 HB57.out (Blk.lt a5)
            have a8 : IBlk w8 (B0 + 1) (exps m p) := HT8.out.blk a7 (by omega)
            have a9 : IBlk w9 (B0 + 1) (exps m p) := Blk.below a8 HB89.out (Blk.lt a8)
            exact hT9.blk a9 (by omega)
          have kL : IBlk wz (B0 + 1 + 1) ls := by
            have a5 : IBlk w5 (B0 + 1 + 1) ls := HT5.out.blk HL.out (by omega)
            have a7 : IBlk w7 (B0 + 1 + 1) ls := Blk.below a5 HB57.out (Blk.lt a5)
            have a8 : IBlk w8 (B0 + 1 + 1) ls := HT8.out.blk a7 (by omega)
            have a9 : IBlk w9 (B0 + 1 + 1) ls := Blk.below a8 HB89.out (Blk.lt a8)
            exact hT9.blk a9 (by omega)
          have kZ : PolyAt wz zp B0 [0] := by
            have a7 : PolyAt w7 zp B0 [0] := HPZ.out
            have a8 : PolyAt w8 zp B0 [0] := a7.upd (Upd.of_turn HT8.out) HG7.out (by decide) (by decide)
            have a9 : PolyAt w9 zp B0 [0] := a8.below HB89.out (Nat.le_refl _)
            exact a9.upd (Upd.of_turn hT9) HG9.out (by decide) (by decide)
          have kO : PolyAt wz op B0 [1] := by
            have a9 : PolyAt w9 op B0 [1] := HPO.out
            exact a9.upd (Upd.of_turn hT9) HG9.out (by decide) (by decide)
          refine ⟨B0, rfl, by omega, ⟨B0 + 1, B0 + 1 + 1, zp, op, ls, ?_, kE, kL, ?_, kZ, kO⟩, ?_⟩
          · rw [HN.out]
            exact hGz
          · rw [HN.out]
            exact HLG.out
          · rw [← sB]
            have b3 : Below B0 w w3 := HBW.out.trans (HT.out.below (by omega))
            have b4 : Below B0 w wr := b3.trans (HT4.out.below (by omega))
            have b5 : Below B0 w w5 := b4.trans (HT5.out.below (by omega))
            have b7 : Below B0 w w7 := b5.trans (HB57.out.mono (by omega))
            have b8 : Below B0 w w8 := b7.trans (HT8.out.below (by omega))
            have b9 : Below B0 w w9 := b8.trans (HB89.out.mono (by omega))
            exact b9.trans (hT9.below (by omega))

/-! ### A decoder, and what it says of a matrix of no version's size -/
theorem gfQR (w : World) : Calls Tryz.prog 79 #[] w fun e w' => ∃ gf, e = .returned (.pointer (some ⟨gf, 0, none⟩)) ∧ w.heap.size ≤ gf ∧ GFAt w' gf 8 285 0 ∧ Below w.heap.size w w' := by
  have k : Calls Tryz.prog 124 #[.int .i64 285, .int .i64 256, .int .i64 0] w _ := newGF w 8 285 0 fQR pQR (by omega) (by omega)
  go_enter Tryz.func79, Tryz.ntmps79
  go_wp2_with (go_at_call 124; refine k.mono ?_; rintro e w' ⟨gf, rfl, h1, h2, h3⟩)
  have H2 := Aside0.mk h2
  clear h2
  go_ret
  exact ⟨gf, rfl, h1, H2.out, h3⟩
theorem newRS (w : World) (gf : Nat) : Calls Tryz.prog 78 #[.pointer (some ⟨gf, 0, none⟩)] w fun e w' => e = .returned (.pointer (some ⟨w.heap.size, 0, none⟩)) ∧ w' = w.alloc (.cells #[.pointer (some ⟨gf, 0, none⟩)] 196) := by
  go_enter Tryz.func78, Tryz.ntmps78
  go_wp2
  go_ret
  exact ⟨rfl, rfl⟩
/-- A decoder of QR codes. -/
def DecAt (w : World) (d rs gf : Nat) : Prop := Blk w d 137 #[.pointer (some ⟨rs, 0, none⟩)] ∧ Blk w rs 196 #[.pointer (some ⟨gf, 0, none⟩)] ∧ GFAt w gf 8 285 0
theorem DecAt.below {w w' : World} {d rs gf B : Nat} (h : DecAt w d rs gf) (hb : Below B w w') (hB : w.heap.size ≤ B) : DecAt w' d rs gf :=
  ⟨h.1.below hb (by have := h.1.lt; omega), h.2.1.below hb (by have := h.2.1.lt; omega), h.2.2.below hb hB⟩
theorem newDec (w : World) : Calls Tryz.prog 36 #[] w fun e w' => ∃ d rs gf, e = .returned (.pointer (some ⟨d, 0, none⟩)) ∧ w.heap.size ≤ gf ∧ w.heap.size ≤ rs ∧ w.heap.size ≤ d ∧ DecAt w' d rs gf ∧ Below w.heap.size w w' := by
  go_enter Tryz.func36, Tryz.ntmps36
  go_wp2_with (first | (go_at_call 79; refine (gfQR _).mono ?_; rintro e w' ⟨gf, rfl, h1, h2, h3⟩; have H2 := Aside0.mk h2; have H3 := Aside0.mk h3; clear h2 h3) | (go_at_call 78; refine (newRS _ gf).mono ?_; rintro e w'' ⟨rfl, rfl⟩))
  go_ret
  have hs := H3.out.size
  refine ⟨w'.heap.size + 1, w'.heap.size, gf, rfl, h1, by omega, by omega, ⟨?_, (Blk.new w' 196 _).alloc _, ?_⟩, below_alloc (below_alloc H3.out _) _⟩
  · simpa using Blk.new (w'.alloc (.cells #[.pointer (some ⟨gf, 0, none⟩)] 196)) 137 #[.pointer (some ⟨w'.heap.size, 0, none⟩)]
  · exact H2.out.below (below_alloc (below_alloc (Below.refl _ _) _) _) (Nat.le_refl _)
def zeroDec : Value := .agg #[.string ⟨#[]⟩, .slice none 0 0, .slice none 0 0, .string ⟨#[]⟩, .int .i64 0, .int .i64 0, .int .i64 0, .int .i64 0]
theorem decoded_err (w : World) (v : Value) (t : TypeId) (x : Value) : Calls Tryz.prog 35 #[v, .iface t x] w fun e w' => e = .returned (.tuple #[zeroDec, .bool false]) ∧ Below w.heap.size w w' := by
  go_enter Tryz.func35, Tryz.ntmps35
  go_wp2
  exact bodyPost_ret (v := .tuple #[zeroDec, .bool false]) (by simp [results, Tryz.results35, go_sem, zeroDec]) rfl ⟨rfl, below_alloc (Below.refl _ _) _⟩
theorem decode_bad (w : World) (d g b wd ht : Nat) (v : Value) (f : Nat → Nat → Bool) (G : Grid w g b wd ht f) (h2 : ht ≤ 1000) (h : BadSize ht) :
    Calls Tryz.prog 126 #[.pointer (some ⟨d, 0, none⟩), .pointer (some ⟨g, 0, none⟩), v] w fun e w' => (∃ x, e = .returned (.tuple #[.pointer none, .iface 208 x])) ∧ Below w.heap.size w w' := by
  have k := newParser_bad w g b wd ht f G h2 h
  clear G h
  go_enter Tryz.func126, Tryz.ntmps126
  go_wp2_with (first | (go_at_call 82; refine k.mono ?_; rintro e w1 ⟨⟨x, rfl⟩, hb1⟩) | (go_at_call 87; refine (wrapFmt _ 208 x).mono ?_; rintro e w2 ⟨⟨y, rfl⟩, hb2⟩))
  go_ret2
  exact ⟨⟨y, rfl⟩, hb1.trans (hb2.mono hb1.size)⟩
/-- Rows of a square: n of them, each of at least n modules. -/
structure Square (rows : List (List Bool)) (n : Nat) : Prop where
  len : rows.length = n
  head : (rows.getD 0 []).length = n
  row : ∀ y, y < n → n ≤ (rows.getD y []).length ∧ (rows.getD y []).length ≤ 1000000
theorem qrDecode_bad (w : World) (A : Option Addr) (c : Nat) (rows : List (List Bool)) (n : Nat) (hr : BRows w A rows) (hc : rows.length ≤ c) (hs : Square rows n) (h1 : 1 ≤ n) (h2 : n ≤ 1000) (h : BadSize n) :
    Calls Tryz.prog 12 #[.slice A n c] w fun e w' => e = .returned (.tuple #[zeroDec, .bool false]) ∧ Below w.heap.size w w' := by
  have HR := Aside0.mk hr
  have HS := Aside0.mk hs
  have H := Aside0.mk h
  have HC := Aside0.mk hc
  clear hr hs h hc
  have k37 : ∀ (W : World) (d : Nat), BRows W A rows → Calls Tryz.prog 37 #[.pointer (some ⟨d, 0, none⟩), .slice A n c] W fun e w' => (∃ x, e = .returned (.tuple #[.pointer none, .iface 208 x])) ∧ Below W.heap.size W w' := by
    intro W d hrW
    have kp := parseMap W A c rows n n hrW HC.out HS.out.len h1 h2 HS.out.head h1 h2 HS.out.row
    have k80 : Calls Tryz.prog 80 #[.pointer (some ⟨d, 0, none⟩), .slice A n c, .map none] W fun e w' => (∃ x, e = .returned (.tuple #[.pointer none, .iface 208 x])) ∧ Below W.heap.size W w' := by
      clear hrW
      go_enter Tryz.func80, Tryz.ntmps80
      go_wp2_with (first | (go_at_call 125; refine kp.mono ?_; rintro e w1 ⟨rfl, hG, hb1⟩; have HG := Aside0.mk hG; have HB1 := Aside0.mk hb1; clear hG hb1) | (go_at_call 126; refine (decode_bad _ d _ _ _ _ _ _ HG.out h2 H.out).mono ?_; rintro e w2 ⟨⟨x, rfl⟩, hb2⟩))
      go_ret2
      exact ⟨⟨x, rfl⟩, HB1.out.trans (hb2.mono HB1.out.size)⟩
    clear hrW kp
    go_enter Tryz.func37, Tryz.ntmps37
    go_wp2_with (go_at_call 80; refine k80.mono ?_; rintro e w1 ⟨⟨x, rfl⟩, hb1⟩)
    go_ret2
    exact ⟨⟨x, rfl⟩, hb1⟩
  have K37 := Aside0.mk k37
  clear k37
  obtain ⟨w0, hw0⟩ : ∃ w0, w0 = w.alloc (.cells #[.string ⟨#[]⟩, .slice none 0 0, .slice none 0 0, .string ⟨#[]⟩, .int .i64 0, .int .i64 0, .int .i64 0, .int .i64 0] 29) := ⟨_, rfl⟩
  have HB0 := Aside0.mk (show Below w.heap.size w w0 by rw [hw0]; exact below_alloc (Below.refl _ _) _)
  have HD0 := Aside0.mk (show Blk w0 w.heap.size 29 #[.string ⟨#[]⟩, .slice none 0 0, .slice none 0 0, .string ⟨#[]⟩, .int .i64 0, .int .i64 0, .int .i64 0, .int .i64 0] by rw [hw0]; exact Blk.new _ _ _)
  obtain ⟨B0, hB⟩ : ∃ B0, B0 = w.heap.size := ⟨_, rfl⟩
  have HW := Aside0.mk hw0
  have HBB := Aside0.mk hB
  clear hw0 hB
  go_enter Tryz.func12, Tryz.ntmps12
  go_wp2_with fail
  rw [← HW.out]
  refine (newDec w0).mono ?_
  rintro e w1 ⟨d, rs, gf, rfl, _, _, _, _, hb1⟩
  have HB1 := Aside0.mk hb1
  clear hb1
  go_wp2_with fail
  refine (K37.out w1 d (Kd.C_below HR.out (HB0.out.trans (HB1.out.mono HB0.out.size)))).mono ?_
  rintro e w2 ⟨⟨x, rfl⟩, hb2⟩
  have HB2 := Aside0.mk hb2
  clear hb2
  go_wp2_with fail
  refine (decoded_err w2 _ _ _).mono ?_
  rintro e w3 ⟨rfl, hb3⟩
  have hB3 : Below w0.heap.size w0 w3 := (HB1.out.trans (HB2.out.mono HB1.out.size)).trans (hb3.mono (Nat.le_trans HB1.out.size HB2.out.size))
  have hD3 := HD0.out.below hB3 HD0.out.lt
  have c0 := hD3.cell 0
  have c1 := hD3.cell 1
  have c2 := hD3.cell 2
  have c3 := hD3.cell 3
  have c4 := hD3.cell 4
  have c5 := hD3.cell 5
  have c6 := hD3.cell 6
  have c7 := hD3.cell 7
  have f0 := hD3.frozen 0
  have f1 := hD3.frozen 1
  have f2 := hD3.frozen 2
  have f3 := hD3.frozen 3
  have f4 := hD3.frozen 4
  have f5 := hD3.frozen 5
  have f6 := hD3.frozen 6
  have f7 := hD3.frozen 7
  have HB3 := Aside0.mk hB3
  clear hb3 hB3 hD3
  unfold zeroDec
  go_wp2
  clear c0 c1 c2 c3 c4 c5 c6 c7 f0 f1 f2 f3 f4 f5 f6 f7
  obtain ⟨w4, hw4⟩ : ∃ w4, w4 = (((((((w3.setCell ⟨w.heap.size, 0, none⟩ (.string ⟨#[]⟩)).setCell ⟨w.heap.size, 1, none⟩ (.slice none 0 0)).setCell ⟨w.heap.size, 2, none⟩ (.slice none 0 0)).setCell ⟨w.heap.size, 3, none⟩ (.string ⟨#[]⟩)).setCell ⟨w.heap.size, 4, none⟩ (.int .i64 0)).setCell ⟨w.heap.size, 5, none⟩ (.int .i64 0)).setCell ⟨w.heap.size, 6, none⟩ (.int .i64 0)).setCell ⟨w.heap.size, 7, none⟩ (.int .i64 0) := ⟨_, rfl⟩
  rw [← hw4]
  have hT : Turn w3 w4 w.heap.size := by
    rw [hw4]
    exact (((((((Turn.set _ _ _ _).trans (Turn.set _ _ _ _)).trans (Turn.set _ _ _ _)).trans (Turn.set _ _ _ _)).trans (Turn.set _ _ _ _)).trans (Turn.set _ _ _ _)).trans (Turn.set _ _ _ _)).trans (Turn.set _ _ _ _)
  have hD4 : Blk w4 w.heap.size 29 #[.string ⟨#[]⟩, .slice none 0 0, .slice none 0 0, .string ⟨#[]⟩, .int .i64 0, .int .i64 0, .int .i64 0, .int .i64 0] := by
    rw [hw4]
    exact blk_set (blk_set (blk_set (blk_set (blk_set (blk_set (blk_set (blk_set (HD0.out.below HB3.out HD0.out.lt) 0 _) 1 _) 2 _) 3 _) 4 _) 5 _) 6 _) 7 _
  have c0 : w4.cell? ⟨w.heap.size, 0, none⟩ = _ := hD4.cell 0
  have c1 : w4.cell? ⟨w.heap.size, 1, none⟩ = _ := hD4.cell 1
  have c2 : w4.cell? ⟨w.heap.size, 2, none⟩ = _ := hD4.cell 2
  have c3 : w4.cell? ⟨w.heap.size, 3, none⟩ = _ := hD4.cell 3
  have c4 : w4.cell? ⟨w.heap.size, 4, none⟩ = _ := hD4.cell 4
  have c5 : w4.cell? ⟨w.heap.size, 5, none⟩ = _ := hD4.cell 5
  have c6 : w4.cell? ⟨w.heap.size, 6, none⟩ = _ := hD4.cell 6
  have c7 : w4.cell? ⟨w.heap.size, 7, none⟩ = _ := hD4.cell 7
  have hbel : Below w.heap.size w w4 := (HB0.out.trans (HB3.out.mono HB0.out.size)).trans (hT.below (Nat.le_refl _))
  exact bodyPost_ret (v := .tuple #[zeroDec, .bool false]) (by simp [results, Tryz.results12, go_sem, zeroDec, c0, c1, c2, c3, c4, c5, c6, c7]) rfl ⟨rfl, hbel⟩

/-! ### QRRead and QRWords of rows -/
theorem gridOf (w : World) (A : Option Addr) (c : Nat) (rows : List (List Bool)) (n : Nat) (hr : BRows w A rows) (hc : rows.length ≤ c) (hs : Square rows n) (h1 : 1 ≤ n) (h2 : n ≤ 1000) :
    Calls Tryz.prog 81 #[.slice A n c] w fun e w' => e = .returned (.tuple #[.pointer (some ⟨w.heap.size + 1, 0, none⟩), .nilIface]) ∧ Grid w' (w.heap.size + 1) w.heap.size n n (cellOf rows) ∧ Below w.heap.size w w' := by
  have kp := parseMap w A c rows n n hr hc hs.len h1 h2 hs.head h1 h2 hs.row
  clear hr hs hc
  go_enter Tryz.func81, Tryz.ntmps81
  go_wp2_with (go_at_call 125; refine kp.mono ?_; rintro e w1 ⟨rfl, hG, hb1⟩)
  have HG := Aside0.mk hG
  clear hG
  go_ret2
  exact ⟨rfl, HG.out, hb1⟩
theorem parser_bad (w : World) (A : Option Addr) (c : Nat) (rows : List (List Bool)) (n : Nat) (hr : BRows w A rows) (hc : rows.length ≤ c) (hs : Square rows n) (h1 : 1 ≤ n) (h2 : n ≤ 1000) (h : BadSize n) :
    Calls Tryz.prog 38 #[.slice A n c] w fun e w' => (∃ x, e = .returned (.tuple #[.pointer none, .iface 208 x])) ∧ Below w.heap.size w w' := by
  have kp := gridOf w A c rows n hr hc hs h1 h2
  have H := Aside0.mk h
  clear hr hs hc h
  go_enter Tryz.func38, Tryz.ntmps38
  go_wp2_with (first | (go_at_call 81; refine kp.mono ?_; rintro e w1 ⟨rfl, hG, hb1⟩; have HG := Aside0.mk hG; have HB1 := Aside0.mk hb1; clear hG hb1) | (go_at_call 82; refine (newParser_bad _ _ _ n n _ HG.out h2 H.out).mono ?_; rintro e w2 ⟨⟨x, rfl⟩, hb2⟩))
  go_ret2
  exact ⟨⟨x, rfl⟩, HB1.out.trans (hb2.mono HB1.out.size)⟩
theorem qrRead_bad (w : World) (A : Option Addr) (c : Nat) (rows : List (List Bool)) (n : Nat) (hr : BRows w A rows) (hc : rows.length ≤ c) (hs : Square rows n) (h1 : 1 ≤ n) (h2 : n ≤ 1000) (h : BadSize n) :
    Calls Tryz.prog 13 #[.slice A n c] w fun e w' => e = .returned (.tuple #[.int .i64 0, .int .i64 0, .int .i64 0, .bool false]) ∧ Below w.heap.size w w' := by
  have kp := parser_bad w A c rows n hr hc hs h1 h2 h
  clear hr hs hc h
  go_enter Tryz.func13, Tryz.ntmps13
  go_wp2_with (go_at_call 38; refine kp.mono ?_; rintro e w1 ⟨⟨x, rfl⟩, hb1⟩)
  exact bodyPost_ret (v := .tuple #[.int .i64 0, .int .i64 0, .int .i64 0, .bool false]) (by simp [results, Tryz.results13, go_sem]) rfl ⟨rfl, hb1⟩
theorem qrWords_bad (w : World) (A : Option Addr) (c : Nat) (rows : List (List Bool)) (n : Nat) (hr : BRows w A rows) (hc : rows.length ≤ c) (hs : Square rows n) (h1 : 1 ≤ n) (h2 : n ≤ 1000) (h : BadSize n) :
    Calls Tryz.prog 14 #[.slice A n c] w fun e w' => e = .returned (.tuple #[.slice none 0 0, .bool false]) ∧ Below w.heap.size w w' := by
  have kp := parser_bad w A c rows n hr hc hs h1 h2 h
  clear hr hs hc h
  go_enter Tryz.func14, Tryz.ntmps14
  go_wp2_with (go_at_call 38; refine kp.mono ?_; rintro e w1 ⟨⟨x, rfl⟩, hb1⟩)
  go_ret2
  exact ⟨rfl, hb1⟩
theorem parser_ok (w : World) (A : Option Addr) (c : Nat) (rows : List (List Bool)) (v : Nat) (hr : BRows w A rows) (hc : rows.length ≤ c) (hs : Square rows (17 + 4 * v)) (hv : 1 ≤ v ∧ v ≤ 40) :
    Calls Tryz.prog 38 #[.slice A (17 + 4 * v) c] w fun e w' => ∃ p g b, e = .returned (.tuple #[.pointer (some ⟨p, 0, none⟩), .nilIface]) ∧ w.heap.size ≤ b ∧ b < g ∧ g < p ∧ Blk w' p 144 (parserCells g) ∧ Grid w' g b (17 + 4 * v) (17 + 4 * v) (cellOf rows) ∧ Below w.heap.size w w' := by
  have kp := gridOf w A c rows (17 + 4 * v) hr hc hs (by omega) (by omega)
  clear hr hs hc
  go_enter Tryz.func38, Tryz.ntmps38
  go_wp2_with (first | (go_at_call 81; refine kp.mono ?_; rintro e w1 ⟨rfl, hG, hb1⟩; have HG := Aside0.mk hG; have HB1 := Aside0.mk hb1; clear hG hb1) | (go_at_call 82; refine (newParser_ok _ _ _ (17 + 4 * v) (17 + 4 * v) _ HG.out (by omega) (by omega) (by omega)).mono ?_; rintro e w2 ⟨rfl, rfl⟩))
  go_ret2
  have hlt := HG.out.lt
  refine ⟨w1.heap.size, w.heap.size + 1, w.heap.size, rfl, by omega, by omega, by omega, Blk.new _ _ _, HG.out.below (below_alloc (Below.refl _ _) _) hlt.1 hlt.2, below_alloc HB1.out _⟩
/-- What the version's bits of f must be. -/
def VerOK (f : Nat → Nat → Bool) (v : Nat) : Prop := 7 ≤ v → hd (vacc f (17 + 4 * v) 18) (verTabN.getD (v - 7) 0) ≤ 3
theorem readVersion (w : World) (p g b v : Nat) (fm : Value) (f : Nat → Nat → Bool) (hP : Parser w p g v fm) (G : Grid w g b (17 + 4 * v) (17 + 4 * v) f) (hv : 1 ≤ v ∧ v ≤ 40) (hok : VerOK f v) :
    Calls Tryz.prog 39 #[.pointer (some ⟨p, 0, none⟩)] w (VerRead w p g v fm) := by
  obtain ⟨x1, hB, hx⟩ := hP
  rcases hx with rfl | ⟨pv, rfl, hV⟩
  · by_cases h : v ≤ 6
    · exact readVersion_small w p g b v fm f hB G ⟨hv.1, h⟩
    · exact readVersion_great w p g b v fm f hB G ⟨by omega, hv.2⟩ (hok (by omega))
  · exact readVersion_again w p g v pv fm hB hV
theorem verNum (w : World) (p n : Nat) (v : VerRow) (h : VerAt w p (n : Int) v) : Calls Tryz.prog 41 #[.pointer (some ⟨p, 0, none⟩)] w fun e w' => e = .returned (.int .i64 (n : Int)) ∧ w = w' := by
  obtain ⟨gc, ge, g, h1, _⟩ := h
  exact ver_num w p _ (h1.cell 0)
theorem fmtLevel (w : World) (q d : Nat) (h : FmtAt w q d) : Calls Tryz.prog 42 #[.pointer (some ⟨q, 0, none⟩)] w fun e w' => e = .returned (.int .i64 ((d / 8 : Nat) : Int)) ∧ w = w' := by
  have c0 : w.cell? ⟨q, 0, none⟩ = _ := Blk.cell h 0
  obtain ⟨x, hx⟩ : ∃ x, d / 8 = x := ⟨_, rfl⟩
  rw [hx] at c0 ⊢
  clear h hx
  replace c0 : w.cell? ⟨q, 0, none⟩ = some (.int .i64 (x : Int)) := c0
  go_enter Tryz.func42, Tryz.ntmps42
  go_wp2
  go_ret
  exact ⟨rfl, rfl⟩
theorem fmtMask (w : World) (q d : Nat) (h : FmtAt w q d) : Calls Tryz.prog 44 #[.pointer (some ⟨q, 0, none⟩)] w fun e w' => e = .returned (.int .u8 ((d % 8 : Nat) : Int)) ∧ w = w' := by
  have c0 : w.cell? ⟨q, 1, none⟩ = _ := Blk.cell h 1
  obtain ⟨x, hx⟩ : ∃ x, d % 8 = x := ⟨_, rfl⟩
  rw [hx] at c0 ⊢
  clear h hx
  replace c0 : w.cell? ⟨q, 1, none⟩ = some (.int .u8 (x : Int)) := c0
  go_enter Tryz.func44, Tryz.ntmps44
  go_wp2
  go_ret
  exact ⟨rfl, rfl⟩
theorem levelBits (w : World) (x : Nat) : Calls Tryz.prog 43 #[.int .i64 (x : Int)] w fun e w' => e = .returned (.int .i64 (x : Int)) ∧ w = w' := by
  go_enter Tryz.func43, Tryz.ntmps43
  go_wp2
  go_ret
  exact ⟨rfl, rfl⟩
theorem qrRead_ok (w : World) (A : Option Addr) (c : Nat) (rows : List (List Bool)) (v d : Nat) (hr : BRows w A rows) (hc : rows.length ≤ c) (hs : Square rows (17 + 4 * v)) (hv : 1 ≤ v ∧ v ≤ 40) (hok : VerOK (cellOf rows) v) (hd : d < 32)
    (hg : fmtGo (nacc (fat1 (cellOf rows)) 15) (nacc (fat2 (cellOf rows) (17 + 4 * v)) 15) fmtTab (2147483647, 0) = some d) :
    Calls Tryz.prog 13 #[.slice A (17 + 4 * v) c] w fun e w' => e = .returned (.tuple #[.int .i64 (v : Int), .int .i64 ((d / 8 : Nat) : Int), .int .i64 ((d % 8 : Nat) : Int), .bool true]) ∧ Below w.heap.size w w' := by
  have kp := parser_ok w A c rows v hr hc hs hv
  have HV := Aside0.mk hv
  have HOK := Aside0.mk hok
  have HGO := Aside0.mk hg
  obtain ⟨x, hx⟩ : ∃ x, d / 8 = x := ⟨_, rfl⟩
  obtain ⟨y, hy⟩ : ∃ y, d % 8 = y := ⟨_, rfl⟩
  rw [hx, hy]
  have hyl : y < 8 := by omega
  have HX := Aside0.mk hx
  have HY := Aside0.mk hy
  clear hr hs hc hok hg hx hy hv
  go_enter Tryz.func13, Tryz.ntmps13
  go_wp2_with fail
  refine kp.mono ?_
  rintro e w1 ⟨p, g, b, rfl, hb0, hbg, hgp, hP, hG, hb1⟩
  have HP := Aside0.mk hP
  have HG := Aside0.mk hG
  have HB1 := Aside0.mk hb1
  clear hP hG hb1
  go_wp2_with fail
  refine (readVersion w1 p g b v (.pointer none) _ ⟨_, HP.out, .inl rfl⟩ HG.out HV.out HOK.out).mono ?_
  rintro e w2 ⟨pv, rfl, hVA, hP2, hu2⟩
  have HVA := Aside0.mk hVA
  have HP2 := Aside0.mk hP2
  have HU2 := Aside0.mk hu2
  clear hVA hP2 hu2
  go_wp2_with fail
  refine (readFormat w2 p g b v d _ HP2.out (HU2.out.grid HG.out (by omega) (by omega)) HV.out hd HGO.out).mono ?_
  rintro e w3 ⟨q, rfl, hF, hP3, hu3⟩
  have HF := Aside0.mk hF
  have HU3 := Aside0.mk hu3
  obtain ⟨x1, hPB, _⟩ := HP2.out
  have HVA3 := Aside0.mk (HVA.out.upd HU3.out hPB)
  have kl := fmtLevel w3 q d hF
  have km := fmtMask w3 q d hF
  rw [HX.out] at kl
  rw [HY.out] at km
  have kv := verNum w3 pv v _ HVA3.out
  clear hF hP3 hu3 hPB
  go_wp2_with (first | (go_at_call 41; refine kv.mono ?_; rintro e w' ⟨rfl, rfl⟩) | (go_at_call 42; refine kl.mono ?_; rintro e w' ⟨rfl, rfl⟩) | (go_at_call 44; refine km.mono ?_; rintro e w' ⟨rfl, rfl⟩) | (go_at_call 43; refine (levelBits _ x).mono ?_; rintro e w' ⟨rfl, rfl⟩))
  have hp1 : w.heap.size ≤ p := by omega
  have hbel := HU3.out.below (HU2.out.below HB1.out hp1 HB1.out.size) hp1 (Nat.le_trans HB1.out.size HU2.out.size)
  exact bodyPost_ret (v := .tuple #[.int .i64 (v : Int), .int .i64 (x : Int), .int .i64 (y : Int), .bool true]) (by simp [results, Tryz.results13, go_sem]) rfl ⟨rfl, hbel⟩

/-! ### QR's patterns: what the reference's functions come to -/
theorem w64q (x : Int) (h0 : -1000000 ≤ x) (h1 : x ≤ 1000000000) : wrap64 x = x := by unfold wrap64; omega
theorem align_some (cs : List Int) (r c : Int) (hl : cs.length ≤ 20) : ∃ t : Int, Ev (fun k => F.spec_qrAlign.f k cs r c) t := by
  obtain ⟨last, hlast⟩ : ∃ last, wrap64 ((cs.length : Int) - 1) = last := ⟨_, rfl⟩
  have HLAST := Aside0.mk hlast
  clear hlast
  have H : ∀ (d i : Nat), i + d = cs.length → ∃ t : Int, Ev (fun k => F.spec_qrAlign.l0 k cs r c last cs (cs.length : Int) i) t := by
    intro d
    induction d with
    | zero =>
      intro i hi
      exact ⟨-1, Ev.step (f := fun _ => some (-1)) (fun k => by rw [F.spec_qrAlign.l0, if_neg (by omega)]) (Ev.now _)⟩
    | succ d ih =>
      intro i hi
      obtain ⟨t0, h0⟩ := ih (i + 1) (by omega)
      have HW := Aside0.mk (show wrap64 ((i : Int) + 1) = ((i + 1 : Nat) : Int) by rw [w64q _ (by omega) (by omega)]; rfl)
      obtain ⟨a, ha⟩ : ∃ a, rd cs i = a := ⟨_, rfl⟩
      have HA := Aside0.mk ha
      clear ha
      have H1 : ∀ (e j : Nat), j + e = cs.length → ∃ t : Int, Ev (fun k => F.spec_qrAlign.l1 k cs r c last i a cs (cs.length : Int) i cs (cs.length : Int) j) t := by
        intro e
        induction e with
        | zero =>
          intro j hj
          exact ⟨t0, Ev.step (fun k => by rw [F.spec_qrAlign.l1, if_neg (by omega), HW.out]) h0⟩
        | succ e ih1 =>
          intro j hj
          obtain ⟨t1, h1⟩ := ih1 (j + 1) (by omega)
          have HWJ := Aside0.mk (show wrap64 ((j : Int) + 1) = ((j + 1 : Nat) : Int) by rw [w64q _ (by omega) (by omega)]; rfl)
          obtain ⟨b, hb⟩ : ∃ b, rd cs j = b := ⟨_, rfl⟩
          have HBB := Aside0.mk hb
          clear hb
          have H3 : ∀ f : Bool, ∃ t : Int, Ev (fun k => F.spec_qrAlign.j3 k cs r c last i a b cs (cs.length : Int) i cs (cs.length : Int) j f) t := by
            intro f
            cases f with
            | true => exact ⟨t1, Ev.step (fun k => by rw [F.spec_qrAlign.j3, if_pos rfl, HWJ.out]) h1⟩
            | false =>
              obtain ⟨u, hu⟩ : ∃ u, F.spec_qrFar.f r c a b = some u := ⟨_, rfl⟩
              by_cases h2 : u ≤ 2
              · exact ⟨u, Ev.step (f := fun _ => some u) (fun k => by rw [F.spec_qrAlign.j3, if_neg (by simp), hu, Option.bind_some, if_pos h2]) (Ev.now _)⟩
              · exact ⟨t1, Ev.step (fun k => by rw [F.spec_qrAlign.j3, if_neg (by simp), hu, Option.bind_some, if_neg h2, HWJ.out]) h1⟩
          have hhead : ∀ k, F.spec_qrAlign.l1 (k + 1) cs r c last i a cs (cs.length : Int) i cs (cs.length : Int) j = (if (i : Int) = 0 then (if (j : Int) = 0 then (F.spec_qrAlign.j3 k cs r c last i a b cs (cs.length : Int) i cs (cs.length : Int) j true) else (if (j : Int) = last then (F.spec_qrAlign.j3 k cs r c last i a b cs (cs.length : Int) i cs (cs.length : Int) j true) else (if (i : Int) = last then (F.spec_qrAlign.j3 k cs r c last i a b cs (cs.length : Int) i cs (cs.length : Int) j ((j : Int) == 0)) else (F.spec_qrAlign.j3 k cs r c last i a b cs (cs.length : Int) i cs (cs.length : Int) j false)))) else (if (i : Int) = last then (F.spec_qrAlign.j3 k cs r c last i a b cs (cs.length : Int) i cs (cs.length : Int) j ((j : Int) == 0)) else (F.spec_qrAlign.j3 k cs r c last i a b cs (cs.length : Int) i cs (cs.length : Int) j false))) := by
            intro k
            rw [F.spec_qrAlign.l1, if_pos (by omega), if_pos (by omega), if_pos (by omega), HBB.out]
          by_cases g1 : (i : Int) = 0
          · by_cases g2 : (j : Int) = 0
            · obtain ⟨t, ht⟩ := H3 true
              exact ⟨t, Ev.step (fun k => by rw [hhead, if_pos g1, if_pos g2]) ht⟩
            · by_cases g3 : (j : Int) = last
              · obtain ⟨t, ht⟩ := H3 true
                exact ⟨t, Ev.step (fun k => by rw [hhead, if_pos g1, if_neg g2, if_pos g3]) ht⟩
              · by_cases g4 : (i : Int) = last
                · obtain ⟨t, ht⟩ := H3 ((j : Int) == 0)
                  exact ⟨t, Ev.step (fun k => by rw [hhead, if_pos g1, if_neg g2, if_neg g3, if_pos g4]) ht⟩
                · obtain ⟨t, ht⟩ := H3 false
                  exact ⟨t, Ev.step (fun k => by rw [hhead, if_pos g1, if_neg g2, if_neg g3, if_neg g4]) ht⟩
          · by_cases g4 : (i : Int) = last
            · obtain ⟨t, ht⟩ := H3 ((j : Int) == 0)
              exact ⟨t, Ev.step (fun k => by rw [hhead, if_neg g1, if_pos g4]) ht⟩
            · obtain ⟨t, ht⟩ := H3 false
              exact ⟨t, Ev.step (fun k => by rw [hhead, if_neg g1, if_neg g4]) ht⟩
      obtain ⟨t1, h1⟩ := H1 cs.length 0 (by omega)
      have hhead : ∀ k, F.spec_qrAlign.l0 (k + 1) cs r c last cs (cs.length : Int) i = (if r < (wrap64 (a - 2)) then (F.spec_qrAlign.j1 k cs r c last i a cs (cs.length : Int) i true) else (F.spec_qrAlign.j1 k cs r c last i a cs (cs.length : Int) i (decide (r > (wrap64 (a + 2)))))) := by
        intro k
        rw [F.spec_qrAlign.l0, if_pos (by omega), if_pos (by omega), if_pos (by omega), HA.out]
      have HJ : ∀ f : Bool, ∃ t : Int, Ev (fun k => F.spec_qrAlign.j1 k cs r c last i a cs (cs.length : Int) i f) t := by
        intro f
        cases f with
        | true => exact ⟨t0, Ev.step (fun k => by rw [F.spec_qrAlign.j1, if_pos rfl, HW.out]) h0⟩
        | false => exact ⟨t1, Ev.step (fun k => by rw [F.spec_qrAlign.j1, if_neg (by simp)]; rfl) h1⟩
      by_cases g1 : r < wrap64 (a - 2)
      · obtain ⟨t, ht⟩ := HJ true
        exact ⟨t, Ev.step (fun k => by rw [hhead, if_pos g1]) ht⟩
      · obtain ⟨t, ht⟩ := HJ (decide (r > wrap64 (a + 2)))
        exact ⟨t, Ev.step (fun k => by rw [hhead, if_neg g1]) ht⟩
  obtain ⟨t, ht⟩ := H cs.length 0 (by omega)
  exact ⟨t, Ev.congr (fun k => by rw [F.spec_qrAlign.f, HLAST.out]; rfl) ht⟩
/-- Whether a module is given, al being what the alignment patterns say. -/
def givenP (v n r c al : Int) : Bool :=
  (decide (r ≤ 8) && (decide (c ≤ 8) || decide (c ≥ n - 8))) || (decide (r ≥ n - 8) && decide (c ≤ 8)) || decide (r = 6) || decide (c = 6) ||
    (decide (v ≥ 7) && ((decide (r ≤ 5) && decide (c ≥ n - 11)) || (decide (c ≤ 5) && decide (r ≥ n - 11)))) || decide (al ≥ 0)
theorem dim_f (v : Int) (h : 1 ≤ v ∧ v ≤ 40) : F.spec_QRDimension.f v = some (17 + 4 * v) := by
  unfold F.spec_QRDimension.f
  rw [w64q (4 * v) (by omega) (by omega), w64q _ (by omega) (by omega)]
theorem given_run (v n r c al : Int) (cs : List Int) (hv : 1 ≤ v ∧ v ≤ 40) (hn : n = 17 + 4 * v) (hal : Ev (fun k => F.spec_qrAlign.f k cs r c) al) : Ev (fun k => F.spec_qrGiven.f k v cs r c) (givenP v n r c al) := by
  have hd := dim_f v hv
  rw [← hn] at hd
  have h8 : wrap64 (n - 8) = n - 8 := w64q _ (by omega) (by omega)
  have h11 : wrap64 (n - 11) = n - 11 := w64q _ (by omega) (by omega)
  have H2 : ∀ b : Bool, Ev (fun k => F.spec_qrGiven.j2 k v cs r c n b) (b || (decide (v ≥ 7) && ((decide (r ≤ 5) && decide (c ≥ n - 11)) || (decide (c ≤ 5) && decide (r ≥ n - 11)))) || decide (al ≥ 0)) := by
    intro b
    have hend : ∀ k : Nat → Option Bool, Ev (fun k => (F.spec_qrAlign.f k cs r c).bind fun t => some (decide (t ≥ 0))) (decide (al ≥ 0)) := fun _ => Ev.bind hal (Ev.now _)
    cases b with
    | true => exact Ev.step (f := fun _ => some true) (fun k => by rw [F.spec_qrGiven.j2, if_pos rfl]) (Ev.now _)
    | false =>
      by_cases g1 : v ≥ 7
      · by_cases g2 : r ≤ 5
        · by_cases g3 : c ≥ n - 11
          · simp only [g1, g2, g3, decide_true, Bool.and_true, Bool.true_or, Bool.false_or, Bool.true_and]
            exact Ev.step (f := fun _ => some true) (fun k => by rw [F.spec_qrGiven.j2, if_neg (by simp), if_pos g1, if_pos g2, h11, if_pos g3]) (Ev.now _)
          · by_cases g4 : c ≤ 5
            · by_cases g5 : r ≥ n - 11
              · simp only [g1, g2, g4, g5, decide_true, Bool.and_true, Bool.true_or, Bool.or_true, Bool.false_or, Bool.true_and]
                exact Ev.step (f := fun _ => some true) (fun k => by rw [F.spec_qrGiven.j2, if_neg (by simp), if_pos g1, if_pos g2, h11, if_neg g3, if_pos g4, if_pos g5]) (Ev.now _)
              · simp only [g1, g2, g3, g4, g5, decide_true, decide_false, Bool.and_true, Bool.and_false, Bool.or_false, Bool.false_or, Bool.true_and]
                exact Ev.step (fun k => by rw [F.spec_qrGiven.j2, if_neg (by simp), if_pos g1, if_pos g2, h11, if_neg g3, if_pos g4, if_neg g5]) (hend (fun _ => none))
            · simp only [g1, g2, g3, g4, decide_true, decide_false, Bool.and_true, Bool.and_false, Bool.or_false, Bool.false_or, Bool.true_and, Bool.false_and]
              exact Ev.step (fun k => by rw [F.spec_qrGiven.j2, if_neg (by simp), if_pos g1, if_pos g2, h11, if_neg g3, if_neg g4]) (hend (fun _ => none))
        · by_cases g4 : c ≤ 5
          · by_cases g5 : r ≥ n - 11
            · simp only [g1, g2, g4, g5, decide_true, decide_false, Bool.and_true, Bool.true_or, Bool.or_true, Bool.false_or, Bool.true_and, Bool.false_and]
              exact Ev.step (f := fun _ => some true) (fun k => by rw [F.spec_qrGiven.j2, if_neg (by simp), if_pos g1, if_neg g2, if_pos g4, h11, if_pos g5]) (Ev.now _)
            · simp only [g1, g2, g4, g5, decide_true, decide_false, Bool.and_true, Bool.and_false, Bool.or_false, Bool.false_or, Bool.true_and, Bool.false_and]
              exact Ev.step (fun k => by rw [F.spec_qrGiven.j2, if_neg (by simp), if_pos g1, if_neg g2, if_pos g4, h11, if_neg g5]) (hend (fun _ => none))
          · simp only [g1, g2, g4, decide_true, decide_false, Bool.and_true, Bool.and_false, Bool.or_false, Bool.false_or, Bool.true_and, Bool.false_and]
            exact Ev.step (fun k => by rw [F.spec_qrGiven.j2, if_neg (by simp), if_pos g1, if_neg g2, if_neg g4]) (hend (fun _ => none))
      · simp only [g1, decide_false, Bool.false_and, Bool.or_false, Bool.false_or]
        exact Ev.step (fun k => by rw [F.spec_qrGiven.j2, if_neg (by simp), if_neg g1]) (hend (fun _ => none))
  have H1 : ∀ b : Bool, Ev (fun k => F.spec_qrGiven.j1 k v cs r c n b) ((b || decide (r = 6) || decide (c = 6)) || (decide (v ≥ 7) && ((decide (r ≤ 5) && decide (c ≥ n - 11)) || (decide (c ≤ 5) && decide (r ≥ n - 11)))) || decide (al ≥ 0)) := by
    intro b
    cases b with
    | true => exact Ev.step (fun k => by rw [F.spec_qrGiven.j1, if_pos rfl]) (H2 true)
    | false =>
      by_cases g : r = 6
      · have := H2 (r == 6)
        rw [show (r == 6) = true from beq_iff_eq.2 g] at this
        rw [show (false || decide (r = 6) || decide (c = 6)) = true from by simp [g]]
        exact Ev.step (fun k => by rw [F.spec_qrGiven.j1, if_neg (by simp), if_pos g, show (r == 6) = true from beq_iff_eq.2 g]) this
      · have := H2 (c == 6)
        rw [show (false || decide (r = 6) || decide (c = 6)) = (c == 6) from by simp [g]; rfl]
        exact Ev.step (fun k => by rw [F.spec_qrGiven.j1, if_neg (by simp), if_neg g]) this
  have H0 : ∀ b : Bool, Ev (fun k => F.spec_qrGiven.j0 k v cs r c n b) ((b || (decide (r ≥ n - 8) && decide (c ≤ 8)) || decide (r = 6) || decide (c = 6)) || (decide (v ≥ 7) && ((decide (r ≤ 5) && decide (c ≥ n - 11)) || (decide (c ≤ 5) && decide (r ≥ n - 11)))) || decide (al ≥ 0)) := by
    intro b
    cases b with
    | true => exact Ev.step (fun k => by rw [F.spec_qrGiven.j0, if_pos rfl]) (H2 true)
    | false =>
      by_cases g : r ≥ n - 8
      · have := H1 (decide (c ≤ 8))
        rw [show (false || (decide (r ≥ n - 8) && decide (c ≤ 8))) = decide (c ≤ 8) from by simp [g]]
        exact Ev.step (fun k => by rw [F.spec_qrGiven.j0, if_neg (by simp), h8, if_pos g]) this
      · have := H1 false
        rw [show (false || (decide (r ≥ n - 8) && decide (c ≤ 8))) = false from by simp [g]]
        exact Ev.step (fun k => by rw [F.spec_qrGiven.j0, if_neg (by simp), h8, if_neg g]) this
  unfold givenP
  by_cases g1 : r ≤ 8
  · by_cases g2 : c ≤ 8
    · have := H0 true
      rw [show (decide (r ≤ 8) && (decide (c ≤ 8) || decide (c ≥ n - 8))) = true from by simp [g1, g2]]
      exact Ev.congr (fun k => by rw [F.spec_qrGiven.f, hd, Option.bind_some, if_pos g1, if_pos g2]) this
    · have := H0 (decide (c ≥ n - 8))
      rw [show (decide (r ≤ 8) && (decide (c ≤ 8) || decide (c ≥ n - 8))) = decide (c ≥ n - 8) from by simp [g1, g2]]
      exact Ev.congr (fun k => by rw [F.spec_qrGiven.f, hd, Option.bind_some, if_pos g1, if_neg g2, h8]) this
  · have := H0 false
    rw [show (decide (r ≤ 8) && (decide (c ≤ 8) || decide (c ≥ n - 8))) = false from by simp [g1]]
    exact Ev.congr (fun k => by rw [F.spec_qrGiven.f, hd, Option.bind_some, if_neg g1]) this

/-! ### QR's patterns: where the format stands -/
/-- Which bit of the format stands at a module; -1: none. -/
def fmtP (n r c : Int) : Int :=
  if c = 8 ∧ r ≤ 5 then r else if c = 8 ∧ r = 7 then 6 else if c = 8 ∧ r = 8 then 7 else if r = 8 ∧ c = 7 then 8 else if r = 8 ∧ c ≤ 5 then 14 - c
  else if r = 8 ∧ c ≥ n - 8 then n - 1 - c else if c = 8 ∧ r ≥ n - 7 then r - n + 15 else -1
theorem fmt_run (n r c : Int) (hn : 21 ≤ n ∧ n ≤ 177) (hr : 0 ≤ r ∧ r < n) (hc : 0 ≤ c ∧ c < n) : Ev (fun k => F.spec_qrFormatAt.f k n r c) (fmtP n r c) := by
  have w1 : wrap64 (14 - c) = 14 - c := w64q _ (by omega) (by omega)
  have w2 : wrap64 (n - 8) = n - 8 := w64q _ (by omega) (by omega)
  have w3 : wrap64 (n - 1) = n - 1 := w64q _ (by omega) (by omega)
  have w4 : wrap64 (n - 1 - c) = n - 1 - c := w64q _ (by omega) (by omega)
  have w5 : wrap64 (n - 7) = n - 7 := w64q _ (by omega) (by omega)
  have w6 : wrap64 (r - n) = r - n := w64q _ (by omega) (by omega)
  have w7 : wrap64 (r - n + 15) = r - n + 15 := w64q _ (by omega) (by omega)
  have W1 := Aside0.mk w1
  have W2 := Aside0.mk w2
  have W3 := Aside0.mk w3
  have W4 := Aside0.mk w4
  have W5 := Aside0.mk w5
  have W6 := Aside0.mk w6
  have W7 := Aside0.mk w7
  clear w1 w2 w3 w4 w5 w6 w7
  have J5 : ∀ b : Bool, Ev (fun k => F.spec_qrFormatAt.j5 k n r c b) (if b = true then n - 1 - c else if c = 8 ∧ r ≥ n - 7 then r - n + 15 else -1) := by
    intro b
    cases b with
    | true => exact Ev.step (f := fun _ => some (n - 1 - c)) (fun k => by rw [F.spec_qrFormatAt.j5, if_pos rfl, W3.out, W4.out]) (Ev.now _)
    | false =>
      by_cases g1 : c = 8
      · by_cases g2 : r ≥ n - 7
        · rw [if_neg (by simp), if_pos ⟨g1, g2⟩]
          exact Ev.step (f := fun _ => some (r - n + 15)) (fun k => by rw [F.spec_qrFormatAt.j5, if_neg (by simp), if_pos g1, W5.out, if_pos g2, W6.out, W7.out]) (Ev.now _)
        · rw [if_neg (by simp), if_neg (fun h => g2 h.2)]
          exact Ev.step (f := fun _ => some (-1)) (fun k => by rw [F.spec_qrFormatAt.j5, if_neg (by simp), if_pos g1, W5.out, if_neg g2]) (Ev.now _)
      · rw [if_neg (by simp), if_neg (fun h => g1 h.1)]
        exact Ev.step (f := fun _ => some (-1)) (fun k => by rw [F.spec_qrFormatAt.j5, if_neg (by simp), if_neg g1]) (Ev.now _)
  have J4 : ∀ b : Bool, Ev (fun k => F.spec_qrFormatAt.j4 k n r c b) (if b = true then 14 - c else if r = 8 ∧ c ≥ n - 8 then n - 1 - c else if c = 8 ∧ r ≥ n - 7 then r - n + 15 else -1) := by
    intro b
    cases b with
    | true => exact Ev.step (f := fun _ => some (14 - c)) (fun k => by rw [F.spec_qrFormatAt.j4, if_pos rfl, W1.out]) (Ev.now _)
    | false =>
      rw [if_neg (by simp)]
      by_cases g1 : r = 8
      · have := J5 (decide (c ≥ n - 8))
        simp only [decide_eq_true_eq] at this
        simp only [show (r = 8 ∧ c ≥ n - 8) ↔ (c ≥ n - 8) from ⟨fun h => h.2, fun h => ⟨g1, h⟩⟩]
        exact Ev.step (fun k => by rw [F.spec_qrFormatAt.j4, if_neg (by simp), if_pos g1, W2.out]) this
      · have := J5 false
        rw [if_neg (by simp)] at this
        rw [if_neg (fun h => g1 h.1)]
        exact Ev.step (fun k => by rw [F.spec_qrFormatAt.j4, if_neg (by simp), if_neg g1]) this
  have J3 : ∀ b : Bool, Ev (fun k => F.spec_qrFormatAt.j3 k n r c b) (if b = true then 8 else if r = 8 ∧ c ≤ 5 then 14 - c else if r = 8 ∧ c ≥ n - 8 then n - 1 - c else if c = 8 ∧ r ≥ n - 7 then r - n + 15 else -1) := by
    intro b
    cases b with
    | true => exact Ev.step (f := fun _ => some 8) (fun k => by rw [F.spec_qrFormatAt.j3, if_pos rfl]) (Ev.now _)
    | false =>
      rw [if_neg (by simp)]
      by_cases g1 : r = 8
      · have := J4 (decide (c ≤ 5))
        simp only [decide_eq_true_eq] at this
        simp only [show (r = 8 ∧ c ≤ 5) ↔ (c ≤ 5) from ⟨fun h => h.2, fun h => ⟨g1, h⟩⟩]
        exact Ev.step (fun k => by rw [F.spec_qrFormatAt.j3, if_neg (by simp), if_pos g1]) this
      · have := J4 false
        rw [if_neg (by simp)] at this
        rw [if_neg (fun h => g1 h.1)]
        exact Ev.step (fun k => by rw [F.spec_qrFormatAt.j3, if_neg (by simp), if_neg g1]) this
  have J2 : ∀ b : Bool, Ev (fun k => F.spec_qrFormatAt.j2 k n r c b) (if b = true then 7 else if r = 8 ∧ c = 7 then 8 else if r = 8 ∧ c ≤ 5 then 14 - c else if r = 8 ∧ c ≥ n - 8 then n - 1 - c else if c = 8 ∧ r ≥ n - 7 then r - n + 15 else -1) := by
    intro b
    cases b with
    | true => exact Ev.step (f := fun _ => some 7) (fun k => by rw [F.spec_qrFormatAt.j2, if_pos rfl]) (Ev.now _)
    | false =>
      rw [if_neg (by simp)]
      by_cases g1 : r = 8
      · have := J3 (c == 7)
        simp only [beq_iff_eq] at this
        simp only [show (r = 8 ∧ c = 7) ↔ (c = 7) from ⟨fun h => h.2, fun h => ⟨g1, h⟩⟩]
        exact Ev.step (fun k => by rw [F.spec_qrFormatAt.j2, if_neg (by simp), if_pos g1]) this
      · have := J3 false
        rw [if_neg (by simp)] at this
        rw [if_neg (fun h => g1 h.1)]
        exact Ev.step (fun k => by rw [F.spec_qrFormatAt.j2, if_neg (by simp), if_neg g1]) this
  have J1 : ∀ b : Bool, Ev (fun k => F.spec_qrFormatAt.j1 k n r c b) (if b = true then 6 else if c = 8 ∧ r = 8 then 7 else if r = 8 ∧ c = 7 then 8 else if r = 8 ∧ c ≤ 5 then 14 - c else if r = 8 ∧ c ≥ n - 8 then n - 1 - c else if c = 8 ∧ r ≥ n - 7 then r - n + 15 else -1) := by
    intro b
    cases b with
    | true => exact Ev.step (f := fun _ => some 6) (fun k => by rw [F.spec_qrFormatAt.j1, if_pos rfl]) (Ev.now _)
    | false =>
      rw [if_neg (by simp)]
      by_cases g1 : c = 8
      · have := J2 (r == 8)
        simp only [beq_iff_eq] at this
        simp only [show (c = 8 ∧ r = 8) ↔ (r = 8) from ⟨fun h => h.2, fun h => ⟨g1, h⟩⟩]
        exact Ev.step (fun k => by rw [F.spec_qrFormatAt.j1, if_neg (by simp), if_pos g1]) this
      · have := J2 false
        rw [if_neg (by simp)] at this
        rw [if_neg (fun h => g1 h.1)]
        exact Ev.step (fun k => by rw [F.spec_qrFormatAt.j1, if_neg (by simp), if_neg g1]) this
  have J0 : ∀ b : Bool, Ev (fun k => F.spec_qrFormatAt.j0 k n r c b) (if b = true then r else if c = 8 ∧ r = 7 then 6 else if c = 8 ∧ r = 8 then 7 else if r = 8 ∧ c = 7 then 8 else if r = 8 ∧ c ≤ 5 then 14 - c else if r = 8 ∧ c ≥ n - 8 then n - 1 - c else if c = 8 ∧ r ≥ n - 7 then r - n + 15 else -1) := by
    intro b
    cases b with
    | true => exact Ev.step (f := fun _ => some r) (fun k => by rw [F.spec_qrFormatAt.j0, if_pos rfl]) (Ev.now _)
    | false =>
      rw [if_neg (by simp)]
      by_cases g1 : c = 8
      · have := J1 (r == 7)
        simp only [beq_iff_eq] at this
        simp only [show (c = 8 ∧ r = 7) ↔ (r = 7) from ⟨fun h => h.2, fun h => ⟨g1, h⟩⟩]
        exact Ev.step (fun k => by rw [F.spec_qrFormatAt.j0, if_neg (by simp), if_pos g1]) this
      · have := J1 false
        rw [if_neg (by simp)] at this
        rw [if_neg (fun h => g1 h.1)]
        exact Ev.step (fun k => by rw [F.spec_qrFormatAt.j0, if_neg (by simp), if_neg g1]) this
  unfold fmtP
  by_cases g1 : c = 8
  · have := J0 (decide (r ≤ 5))
    simp only [decide_eq_true_eq] at this
    simp only [show (c = 8 ∧ r ≤ 5) ↔ (r ≤ 5) from ⟨fun h => h.2, fun h => ⟨g1, h⟩⟩]
    exact Ev.congr (fun k => by rw [F.spec_qrFormatAt.f, if_pos g1]) this
  · have := J0 false
    rw [if_neg (by simp)] at this
    rw [if_neg (fun h => g1 h.1)]
    exact Ev.congr (fun k => by rw [F.spec_qrFormatAt.f, if_neg g1]) this
/-- Where a bit of the format stands, the pattern is that bit. -/
theorem pattern_fmt (v n r c fm al : Int) (cs : List Int) (hv : 1 ≤ v ∧ v ≤ 40) (hn : n = 17 + 4 * v) (hr : 0 ≤ r ∧ r < n) (hc : 0 ≤ c ∧ c < n) (b : Int) (hb : fmtP n r c = b) (hb0 : 0 ≤ b) :
    Ev (fun k => F.spec_qrPattern.f k v fm cs r c) (Go.bits .and .i64 (shr .i64 fm b) 1 == 1) := by
  have hd := dim_f v hv
  rw [← hn] at hd
  have hf := fmt_run n r c (by omega) hr hc
  rw [hb] at hf
  refine Ev.congr (fun k => by rw [F.spec_qrPattern.f, hd, Option.bind_some]) (Ev.bind hf ?_)
  exact Ev.congr (f := fun _ => some (Go.bits .and .i64 (shr .i64 fm b) 1 == 1)) (fun k => by rw [if_pos (by omega), if_pos hb0]) (Ev.now _)
/-- The places of the format belong to the patterns. -/
theorem given_fmt (v n r c al : Int) (hr : 0 ≤ r ∧ r < n) (hc : 0 ≤ c ∧ c < n) (h : 0 ≤ fmtP n r c) : givenP v n r c al = true := by
  unfold fmtP at h
  have : (r ≤ 8 ∧ (c ≤ 8 ∨ c ≥ n - 8)) ∨ (r ≥ n - 8 ∧ c ≤ 8) := by
    repeat' split at h
    all_goals omega
  unfold givenP
  rcases this with ⟨h1, h2 | h2⟩ | ⟨h1, h2⟩
  · simp [h1, h2]
  · simp [h1, h2]
  · simp [h1, h2]

/-! ### QR's patterns: every module of a pattern has one -/
def vbits (v : Nat) : Int := (F.spec_QRVersionBits.f 40 v).getD 0
set_option maxRecDepth 100000 in
theorem vbits_look : ∀ v : Fin 41, F.spec_QRVersionBits.f 40 (v.val : Nat) = some (vbits v.val) := by decide +kernel
theorem vbits_run (v : Nat) (h : v ≤ 40) : Ev (fun k => F.spec_QRVersionBits.f k v) (vbits v) := Ev.of (F.spec_QRVersionBits.mono v) (vbits_look ⟨v, by omega⟩)
theorem far_run (a b c d : Int) (ha : -1000 ≤ a ∧ a ≤ 1000) (hb : -1000 ≤ b ∧ b ≤ 1000) (hc : -1000 ≤ c ∧ c ≤ 1000) (hd : -1000 ≤ d ∧ d ≤ 1000) : ∃ t, F.spec_qrFar.f a b c d = some t ∧ ((a - c ≤ 4 ∧ c - a ≤ 4 ∧ b - d ≤ 4 ∧ d - b ≤ 4) → t ≤ 4) := by
  refine ⟨_, rfl, fun h => ?_⟩
  rw [w64q (a - c) (by omega) (by omega), w64q (c - a) (by omega) (by omega), w64q (b - d) (by omega) (by omega), w64q (d - b) (by omega) (by omega)]
  unfold mx
  repeat' split
  all_goals omega
theorem mn3_le (a b c : Int) (h : ¬ mn (mn a b) c ≤ 4) : ¬ a ≤ 4 ∧ ¬ b ≤ 4 ∧ ¬ c ≤ 4 := by
  unfold mn at h
  repeat' split at h
  all_goals omega
theorem nook1 (r c : Int) (h1 : r ≤ 8) (h2 : c ≤ 8) : (r ≤ 7 ∧ c ≤ 7) ∨ (c = 8 ∧ r ≤ 5) ∨ r = 6 ∨ (c = 8 ∧ r = 7) ∨ (c = 8 ∧ r = 8) ∨ (r = 8 ∧ c = 7) ∨ c = 6 ∨ (r = 8 ∧ c ≤ 5) := by omega
theorem nook2 (n r c : Int) (h1 : r ≤ 8) (h2 : c ≥ n - 8) : (r ≤ 7 ∧ c ≥ n - 8) ∨ (r = 8 ∧ c ≥ n - 8) := by omega
theorem nook3 (n r c : Int) (h1 : r ≥ n - 8) (h2 : c ≤ 8) : (r ≥ n - 8 ∧ c ≤ 7) ∨ (c = 8 ∧ r ≥ n - 7) ∨ (r = n - 8 ∧ c = 8) := by omega
/-- A pattern's module that is none of the others' stands in the version's. -/
theorem region_left (v n r c al : Int) (hn : 21 ≤ n) (hr : 0 ≤ r ∧ r < n) (hc : 0 ≤ c ∧ c < n) (hf : ¬ 0 ≤ fmtP n r c) (hg : givenP v n r c al = true) (g2 : ¬ al ≥ 0) (g3 : ¬ r = 6) (g4 : ¬ c = 6)
    (m1 : ¬ (r ≤ 7 ∧ c ≤ 7)) (m2 : ¬ (r ≤ 7 ∧ c ≥ n - 8)) (m3 : ¬ (r ≥ n - 8 ∧ c ≤ 7)) (hnc : ¬ (r = n - 8 ∧ c = 8)) : (r ≤ 5 ∧ c ≥ n - 11) ∨ (c ≤ 5 ∧ r ≥ n - 11) := by
  have f1 : ¬ (c = 8 ∧ r ≤ 5) := fun h => hf (by unfold fmtP; rw [if_pos h]; exact hr.1)
  have f2 : ¬ (c = 8 ∧ r = 7) := fun h => hf (by unfold fmtP; rw [if_neg f1, if_pos h]; decide)
  have f3 : ¬ (c = 8 ∧ r = 8) := fun h => hf (by unfold fmtP; rw [if_neg f1, if_neg f2, if_pos h]; decide)
  have f4 : ¬ (r = 8 ∧ c = 7) := fun h => hf (by unfold fmtP; rw [if_neg f1, if_neg f2, if_neg f3, if_pos h]; decide)
  have f5 : ¬ (r = 8 ∧ c ≤ 5) := fun h => hf (by unfold fmtP; rw [if_neg f1, if_neg f2, if_neg f3, if_neg f4, if_pos h]; have := h.2; omega)
  have f6 : ¬ (r = 8 ∧ c ≥ n - 8) := fun h => hf (by unfold fmtP; rw [if_neg f1, if_neg f2, if_neg f3, if_neg f4, if_neg f5, if_pos h]; have := hc.2; omega)
  have f7 : ¬ (c = 8 ∧ r ≥ n - 7) := fun h => hf (by unfold fmtP; rw [if_neg f1, if_neg f2, if_neg f3, if_neg f4, if_neg f5, if_neg f6, if_pos h]; have := h.2; omega)
  unfold givenP at hg
  simp only [Bool.or_eq_true, Bool.and_eq_true, decide_eq_true_eq] at hg
  rcases hg with ((((h | h) | h) | h) | h) | h
  · rcases h with ⟨h1, h2 | h2⟩
    · rcases nook1 r c h1 h2 with h | h | h | h | h | h | h | h
      · exact absurd h m1
      · exact absurd h f1
      · exact absurd h g3
      · exact absurd h f2
      · exact absurd h f3
      · exact absurd h f4
      · exact absurd h g4
      · exact absurd h f5
    · rcases nook2 n r c h1 h2 with h | h
      · exact absurd h m2
      · exact absurd h f6
  · rcases nook3 n r c h.1 h.2 with h | h | h
    · exact absurd h m3
    · exact absurd h f7
    · exact absurd h hnc
  · exact absurd h g3
  · exact absurd h g4
  · exact h.2
  · exact absurd h g2
set_option maxHeartbeats 1000000 in
theorem pattern_some (v : Nat) (n r c fm al : Int) (cs : List Int) (hv : 1 ≤ v ∧ v ≤ 40) (hn : n = 17 + 4 * (v : Int)) (hr : 0 ≤ r ∧ r < n) (hc : 0 ≤ c ∧ c < n) (hal : Ev (fun k => F.spec_qrAlign.f k cs r c) al) (hg : givenP v n r c al = true) :
    ∃ b, Ev (fun k => F.spec_qrPattern.f k v fm cs r c) b := by
  by_cases hf : 0 ≤ fmtP n r c
  · exact ⟨_, pattern_fmt v n r c fm al cs (by omega) hn hr hc _ rfl hf⟩
  · have hd := dim_f v (by omega)
    rw [← hn] at hd
    have hfr := fmt_run n r c (by omega) hr hc
    have w8 : wrap64 (n - 8) = n - 8 := w64q _ (by omega) (by omega)
    have w4 : wrap64 (n - 4) = n - 4 := w64q _ (by omega) (by omega)
    obtain ⟨t1, h1, l1⟩ := far_run r c 3 3 (by omega) (by omega) (by omega) (by omega)
    obtain ⟨t2, h2, l2⟩ := far_run r c 3 (n - 4) (by omega) (by omega) (by omega) (by omega)
    obtain ⟨t3, h3, l3⟩ := far_run r c (n - 4) 3 (by omega) (by omega) (by omega) (by omega)
    have J0 : ∀ f : Bool, (f = false → ¬ (r = n - 8 ∧ c = 8)) → ∃ b, Ev (fun k => F.spec_qrPattern.j0 k v cs r c n f) b := by
      intro f hfl
      cases f with
      | true => exact ⟨true, Ev.step (f := fun _ => some true) (fun k => by rw [F.spec_qrPattern.j0, if_pos rfl]) (Ev.now _)⟩
      | false =>
        have hnc := hfl rfl
        have hh : ∀ k, F.spec_qrPattern.j0 (k + 1) v cs r c n false = (if (mn (mn t1 t2) t3) ≤ 4 then (if (mn (mn t1 t2) t3) = 2 then (some false) else (some ((mn (mn t1 t2) t3) != 4))) else ((F.spec_qrAlign.f k cs r c).bind fun t138 => (if t138 ≥ 0 then (some (t138 != 1)) else (if r = 6 then (F.spec_qrPattern.j1 k v r c n true) else (F.spec_qrPattern.j1 k v r c n (c == 6)))))) := by
          intro k
          rw [F.spec_qrPattern.j0, if_neg (by simp), w4, h1, Option.bind_some, h2, Option.bind_some, h3, Option.bind_some]
        by_cases g1 : mn (mn t1 t2) t3 ≤ 4
        · by_cases g2 : mn (mn t1 t2) t3 = 2
          · exact ⟨false, Ev.step (f := fun _ => some false) (fun k => by rw [hh, if_pos g1, if_pos g2]) (Ev.now _)⟩
          · exact ⟨_, Ev.step (f := fun _ => some (mn (mn t1 t2) t3 != 4)) (fun k => by rw [hh, if_pos g1, if_neg g2]) (Ev.now _)⟩
        · have hm := mn3_le _ _ _ g1
          have hj1 : ∃ b, Ev (fun k => F.spec_qrPattern.j1 k v r c n true) b := ⟨_, Ev.step (f := fun _ => some ((Int.tmod (wrap64 (r + c)) 2) == 0)) (fun k => by rw [F.spec_qrPattern.j1, if_pos rfl]) (Ev.now _)⟩
          suffices hS : ∃ b, Ev (fun k => if al ≥ 0 then (some (al != 1)) else (if r = 6 then (F.spec_qrPattern.j1 k v r c n true) else (F.spec_qrPattern.j1 k v r c n (c == 6)))) b by
            obtain ⟨b, hb⟩ := hS
            exact ⟨b, Ev.step (fun k => by rw [hh, if_neg g1]) (Ev.bind hal hb)⟩
          by_cases g2 : al ≥ 0
          · exact ⟨_, Ev.congr (f := fun _ => some (al != 1)) (fun k => by rw [if_pos g2]) (Ev.now _)⟩
          · by_cases g3 : r = 6
            · obtain ⟨b, hb⟩ := hj1
              exact ⟨b, Ev.congr (fun k => by rw [if_neg g2, if_pos g3]) hb⟩
            · by_cases g4 : c = 6
              · obtain ⟨b, hb⟩ := hj1
                exact ⟨b, Ev.congr (fun k => by rw [if_neg g2, if_neg g3, show (c == 6) = true from beq_iff_eq.2 g4]) hb⟩
              · have key : (r ≤ 5 ∧ c ≥ n - 11) ∨ (c ≤ 5 ∧ r ≥ n - 11) := by
                  have m1 : ¬ (r ≤ 7 ∧ c ≤ 7) := fun h => hm.1 (l1 ⟨by omega, by omega, by omega, by omega⟩)
                  have m2 : ¬ (r ≤ 7 ∧ c ≥ n - 8) := fun h => hm.2.1 (l2 ⟨by omega, by omega, by omega, by omega⟩)
                  have m3 : ¬ (r ≥ n - 8 ∧ c ≤ 7) := fun h => hm.2.2 (l3 ⟨by omega, by omega, by omega, by omega⟩)
                  exact region_left v n r c al (by omega) hr hc hf hg g2 g3 g4 m1 m2 m3 hnc
                have hvr := vbits_run v (by omega)
                have hb6 : (c == 6) = false := beq_eq_false_iff_ne.2 g4
                by_cases g5 : r < c
                · have e1 : wrap64 (wrap64 (wrap64 (wrap64 (r * 3) + c) - n) + 11) = r * 3 + c - n + 11 := by rw [w64q (r * 3) (by omega) (by omega), w64q (r * 3 + c) (by omega) (by omega), w64q (r * 3 + c - n) (by omega) (by omega), w64q (r * 3 + c - n + 11) (by omega) (by omega)]
                  have hsh : 0 ≤ r * 3 + c - n + 11 := by omega
                  refine ⟨_, Ev.congr (fun k => by rw [if_neg g2, if_neg g3, hb6]) (Ev.step (fun k => by rw [F.spec_qrPattern.j1, if_neg (by simp), if_pos g5, e1]) (Ev.bind hvr (Ev.congr (fun k => by rw [if_pos hsh]) (Ev.now _))))⟩
                · have e1 : wrap64 (wrap64 (wrap64 (wrap64 (c * 3) + r) - n) + 11) = c * 3 + r - n + 11 := by rw [w64q (c * 3) (by omega) (by omega), w64q (c * 3 + r) (by omega) (by omega), w64q (c * 3 + r - n) (by omega) (by omega), w64q (c * 3 + r - n + 11) (by omega) (by omega)]
                  have hsh : 0 ≤ c * 3 + r - n + 11 := by omega
                  refine ⟨_, Ev.congr (fun k => by rw [if_neg g2, if_neg g3, hb6]) (Ev.step (fun k => by rw [F.spec_qrPattern.j1, if_neg (by simp), if_neg g5, e1]) (Ev.bind hvr (Ev.congr (fun k => by rw [if_pos hsh]) (Ev.now _))))⟩
    by_cases g1 : r = n - 8
    · obtain ⟨b, hb⟩ := J0 (c == 8) (fun h => fun hh => by simp [hh.2] at h)
      exact ⟨b, Ev.congr (fun k => by rw [F.spec_qrPattern.f, hd, Option.bind_some]) (Ev.bind hfr (Ev.congr (fun k => by rw [if_neg hf, w8, if_pos g1]) hb))⟩
    · obtain ⟨b, hb⟩ := J0 false (fun _ h => g1 h.1)
      exact ⟨b, Ev.congr (fun k => by rw [F.spec_qrPattern.f, hd, Option.bind_some]) (Ev.bind hfr (Ev.congr (fun k => by rw [if_neg hf, w8, if_neg g1]) hb))⟩

/-! ### QR's patterns, all modules -/
def cent (v : Nat) : List Int := (F.spec_QRCenters.f 60 v).getD []
set_option maxRecDepth 100000 in
theorem cent_look : ∀ v : Fin 40, F.spec_QRCenters.f 60 ((v.val + 1 : Nat) : Int) = some (cent (v.val + 1)) ∧ (cent (v.val + 1)).length ≤ 20 := by decide +kernel
theorem cent_run (v : Nat) (h : 1 ≤ v ∧ v ≤ 40) : Ev (fun k => F.spec_QRCenters.f k v) (cent v) ∧ (cent v).length ≤ 20 := by
  obtain ⟨h1, h2⟩ := cent_look ⟨v - 1, by omega⟩
  rw [show v - 1 + 1 = v by omega] at h1 h2
  exact ⟨Ev.of (F.spec_QRCenters.mono v) h1, h2⟩
theorem fmt10 : Ev (fun k => F.spec_QRFormatBits.f k 1 0) 30660 := Ev.of (F.spec_QRFormatBits.mono 1 0) (k := 60) (by decide +kernel)
/-- What stands at a module: al is what the alignment patterns say. -/
def CellIs (fm : Int) (v : Nat) (r c : Int) (b : Bool) : Prop := ∃ al, Ev (fun k => F.spec_qrAlign.f k (cent v) r c) al ∧ ((givenP v (17 + 4 * (v : Int)) r c al = true ∧ Ev (fun k => F.spec_qrPattern.f k v fm (cent v) r c) b) ∨ (givenP v (17 + 4 * (v : Int)) r c al = false ∧ b = false))
theorem cell_some (fm : Int) (v : Nat) (hv : 1 ≤ v ∧ v ≤ 40) (r c : Int) (hr : 0 ≤ r ∧ r < 17 + 4 * (v : Int)) (hc : 0 ≤ c ∧ c < 17 + 4 * (v : Int)) : ∃ b, CellIs fm v r c b := by
  obtain ⟨al, hal⟩ := align_some (cent v) r c (cent_run v hv).2
  cases hg : givenP v (17 + 4 * (v : Int)) r c al with
  | true =>
    obtain ⟨b, hb⟩ := pattern_some v _ r c fm al (cent v) hv rfl hr hc hal hg
    exact ⟨b, al, hal, .inl ⟨hg, hb⟩⟩
  | false => exact ⟨false, al, hal, .inr ⟨hg, rfl⟩⟩
theorem set_mid {α : Type} (A B : List α) (x y : α) (i : Nat) (h : A.length = i) : (A ++ x :: B).set i y = A ++ y :: B := by
  subst h
  rw [List.set_append_right _ _ (Nat.le_refl _), Nat.sub_self]
  rfl
theorem rd_mid (A B : List (List Bool)) (x : List Bool) (i : Nat) (h : A.length = i) : F.rd_L1 (A ++ x :: B) (i : Int) = x := by
  subst h
  unfold F.rd_L1
  rw [Int.toNat_natCast, List.getD_eq_getElem?_getD, List.getElem?_append_right (Nat.le_refl _), Nat.sub_self]
  rfl
def rowOfB (n : Nat) (cf : Nat → Nat → Bool) (r : Nat) : List Bool := (List.range n).map (cf r)
def rowsOfB (n : Nat) (cf : Nat → Nat → Bool) (i : Nat) : List (List Bool) := (List.range i).map (rowOfB n cf)
theorem rowsOfB_len (n : Nat) (cf : Nat → Nat → Bool) (i : Nat) : (rowsOfB n cf i).length = i := by simp [rowsOfB]
def part (n : Nat) (cf : Nat → Nat → Bool) (r j : Nat) : List Bool := (List.range j).map (cf r) ++ List.replicate (n - j) false
theorem part_len (n : Nat) (cf : Nat → Nat → Bool) (r j : Nat) (h : j ≤ n) : (part n cf r j).length = n := by simp [part]; omega
theorem part_set (n : Nat) (cf : Nat → Nat → Bool) (r j : Nat) (h : j < n) : (part n cf r j).set j (cf r j) = part n cf r (j + 1) := by
  unfold part
  rw [show n - j = (n - (j + 1)) + 1 by omega, List.replicate_succ, set_mid _ _ _ _ j (by simp), List.range_succ, List.map_append, List.append_assoc]
  rfl
theorem patterns_run (fm l mk : Int) (hfm : Ev (fun k => F.spec_QRFormatBits.f k l mk) fm) (v : Nat) (hv : 1 ≤ v ∧ v ≤ 40) : ∃ cf : Nat → Nat → Bool, (∀ r c : Nat, r < 17 + 4 * v → c < 17 + 4 * v → CellIs fm v r c (cf r c)) ∧
    Ev (fun k => F.spec_QRPatterns.f k v l mk) (rowsOfB (17 + 4 * v) cf (17 + 4 * v)) := by
  have hex : ∀ r c : Nat, ∃ b, r < 17 + 4 * v → c < 17 + 4 * v → CellIs fm v r c b := by
    intro r c
    by_cases h : r < 17 + 4 * v ∧ c < 17 + 4 * v
    · obtain ⟨b, hb⟩ := cell_some fm v hv r c (by omega) (by omega)
      exact ⟨b, fun _ _ => hb⟩
    · exact ⟨false, fun h1 h2 => absurd ⟨h1, h2⟩ h⟩
  obtain ⟨n, hn⟩ : ∃ n, 17 + 4 * v = n := ⟨_, rfl⟩
  rw [hn] at hex ⊢
  refine ⟨fun r c => (hex r c).choose, fun r c h1 h2 => (hex r c).choose_spec h1 h2, ?_⟩
  generalize hcf : (fun r c => (hex r c).choose) = cf
  have hcell : ∀ r c : Nat, r < n → c < n → CellIs fm v r c (cf r c) := by
    intro r c h1 h2
    rw [← hcf]
    exact (hex r c).choose_spec h1 h2
  clear hcf
  have hnv : (n : Int) = 17 + 4 * (v : Int) := by omega
  have H0 : ∀ (d i : Nat), i + d = n → Ev (fun k => F.spec_QRPatterns.l0 k v n fm (cent v) (rowsOfB n cf i ++ List.replicate (n - i) []) n i) (rowsOfB n cf n) := by
    intro d
    induction d with
    | zero =>
      intro i hi
      obtain rfl : i = n := by omega
      refine Ev.step (f := fun _ => some (rowsOfB i cf i)) (fun k => ?_) (Ev.now _)
      rw [F.spec_QRPatterns.l0, if_neg (by omega), Nat.sub_self, List.replicate_zero, List.append_nil]
    | succ d ih =>
      intro i hi
      have hnext := ih (i + 1) (by omega)
      have HW := Aside0.mk (show wrap64 ((i : Int) + 1) = ((i + 1 : Nat) : Int) by rw [w64q _ (by omega) (by omega)]; rfl)
      have H1 : ∀ (e j : Nat), j + e = n → Ev (fun k => F.spec_QRPatterns.l1 k v n fm (cent v) (rowsOfB n cf i ++ part n cf i j :: List.replicate (n - (i + 1)) []) i n i n j) (rowsOfB n cf n) := by
        intro e
        induction e with
        | zero =>
          intro j hj
          obtain rfl : j = n := by omega
          have hrow : rowsOfB j cf i ++ part j cf i j :: List.replicate (j - (i + 1)) [] = rowsOfB j cf (i + 1) ++ List.replicate (j - (i + 1)) [] := by
            unfold rowsOfB part
            rw [Nat.sub_self, List.replicate_zero, List.append_nil, List.range_succ, List.map_append, List.append_assoc]
            rfl
          refine Ev.step (fun k => ?_) hnext
          rw [F.spec_QRPatterns.l1, if_neg (by omega), HW.out, hrow]
        | succ e ih1 =>
          intro j hj
          have h1 := ih1 (j + 1) (by omega)
          have HWJ := Aside0.mk (show wrap64 ((j : Int) + 1) = ((j + 1 : Nat) : Int) by rw [w64q _ (by omega) (by omega)]; rfl)
          have hlen : (rowsOfB n cf i ++ part n cf i j :: List.replicate (n - (i + 1)) []).length = n := by simp [rowsOfB_len]; omega
          have hrd := rd_mid (rowsOfB n cf i) (List.replicate (n - (i + 1)) []) (part n cf i j) i (rowsOfB_len n cf i)
          have hpl := part_len n cf i j (by omega)
          have hset : (rowsOfB n cf i ++ part n cf i j :: List.replicate (n - (i + 1)) []).set i ((part n cf i j).set j (cf i j)) = rowsOfB n cf i ++ part n cf i (j + 1) :: List.replicate (n - (i + 1)) [] := by
            rw [set_mid _ _ _ _ i (rowsOfB_len n cf i), part_set n cf i j (by omega)]
          obtain ⟨al, hal, hb⟩ := hcell i j (by omega) (by omega)
          have hgr := given_run v n i j al (cent v) (by omega) (by omega) hal
          rw [← hnv] at hb
          have hgo : Ev (fun k => F.spec_QRPatterns.l1 k v n fm (cent v) ((rowsOfB n cf i ++ part n cf i j :: List.replicate (n - (i + 1)) []).set i ((part n cf i j).set j (cf i j))) i n i n ((j + 1 : Nat) : Int)) (rowsOfB n cf n) := by rw [hset]; exact h1
          refine Ev.step (fun k => by rw [F.spec_QRPatterns.l1, if_pos (by omega), if_pos (by omega), if_pos (by omega)]) (Ev.bind hgr ?_)
          rcases hb with ⟨hg, hp⟩ | ⟨hg, hp⟩
          · rw [hg]
            refine Ev.congr (fun k => by rw [if_pos rfl]) (Ev.bind hp ?_)
            refine Ev.congr (fun k => ?_) hgo
            rw [if_pos (by omega), hrd, if_pos (by omega), HWJ.out, Int.toNat_natCast, Int.toNat_natCast]
          · rw [hg]
            refine Ev.congr (fun k => ?_) hgo
            rw [if_neg (by simp), if_pos (by omega), hrd, if_pos (by omega), HWJ.out, Int.toNat_natCast, Int.toNat_natCast, hp]
      have h1 := H1 n 0 (by omega)
      have hrep : rowsOfB n cf i ++ List.replicate (n - i) [] = rowsOfB n cf i ++ [] :: List.replicate (n - (i + 1)) [] := by rw [show n - i = (n - (i + 1)) + 1 by omega, List.replicate_succ]
      have hlen : (rowsOfB n cf i ++ [] :: List.replicate (n - (i + 1)) []).length = n := by simp [rowsOfB_len]; omega
      have hset := set_mid (rowsOfB n cf i) (List.replicate (n - (i + 1)) []) [] (List.replicate n false) i (rowsOfB_len n cf i)
      have hpz : part n cf i 0 = List.replicate n false := by unfold part; simp
      rw [hpz] at h1
      have hrd := rd_mid (rowsOfB n cf i) (List.replicate (n - (i + 1)) []) (List.replicate n false) i (rowsOfB_len n cf i)
      refine Ev.step (fun k => ?_) h1
      rw [F.spec_QRPatterns.l0, if_pos (by omega), if_pos (by omega), if_pos (by omega), if_pos (by omega), hrep, if_pos (by omega), Option.bind_some, Int.toNat_natCast, Int.toNat_natCast, hset, hrd, List.length_replicate]
      rfl
  have hd := dim_f v (by omega)
  rw [← hnv] at hd
  refine Ev.congr (fun k => by rw [F.spec_QRPatterns.f, hd, Option.bind_some]) (Ev.bind hfm (Ev.bind (cent_run v hv).1 ?_))
  have h0 := H0 n 0 (by omega)
  refine Ev.congr (fun k => ?_) h0
  rw [if_pos (by omega), if_pos (by omega), Option.bind_some, Int.toNat_natCast, List.length_replicate]
  rfl

/-! ### QR's patterns: what is read of them -/
theorem ev_uniq {α : Type} {g : Nat → Option α} {a b : α} (h : Ev g a) (k : Ev g b) : a = b := by
  obtain ⟨K, h⟩ := h
  obtain ⟨K', k⟩ := k
  have h1 := h (max K K') (by omega)
  have h2 := k (max K K') (by omega)
  rw [h1] at h2
  exact Option.some.inj h2
def bitQ (x b : Int) : Bool := Go.bits .and .i64 (shr .i64 x b) 1 == 1
/-- The format's bits. -/
theorem cell_fmt (fm : Int) (v : Nat) (hv : 1 ≤ v ∧ v ≤ 40) (r c : Int) (b : Bool) (h : CellIs fm v r c b) (hr : 0 ≤ r ∧ r < 17 + 4 * (v : Int)) (hc : 0 ≤ c ∧ c < 17 + 4 * (v : Int)) (hf : 0 ≤ fmtP (17 + 4 * (v : Int)) r c) : b = bitQ fm (fmtP (17 + 4 * (v : Int)) r c) := by
  obtain ⟨al, hal, h | h⟩ := h
  · exact ev_uniq h.2 (pattern_fmt v _ r c fm al (cent v) (by omega) rfl hr hc _ rfl hf)
  · rw [given_fmt v _ r c al hr hc hf] at h
    exact absurd h.1 (by simp)
theorem pattern_indep (v : Nat) (n r c fm fm' : Int) (cs : List Int) (hv : 1 ≤ v ∧ v ≤ 40) (hn : n = 17 + 4 * (v : Int)) (hr : 0 ≤ r ∧ r < n) (hc : 0 ≤ c ∧ c < n) (hf : fmtP n r c = -1) (b : Bool)
    (h : Ev (fun k => F.spec_qrPattern.f k v fm cs r c) b) : Ev (fun k => F.spec_qrPattern.f k v fm' cs r c) b := by
  have hfr := fmt_run n r c (by omega) hr hc
  rw [hf] at hfr
  obtain ⟨K, h⟩ := h
  obtain ⟨K', hfr⟩ := hfr
  refine ⟨max K K', fun k hk => ?_⟩
  have h1 := h k (by omega)
  have h2 := hfr k (by omega)
  have hd := dim_f v (by omega)
  rw [← hn] at hd
  simp only at h1 h2 ⊢
  rw [← h1]
  unfold F.spec_qrPattern.f
  rw [hd]
  simp only [Option.bind_some, h2]
  simp only [show ¬ ((-1 : Int) ≥ 0) by omega, if_false]
set_option maxRecDepth 100000 in
theorem ver_look : ∀ v : Fin 34, ∀ r : Fin 6, ∀ t : Fin 3, F.spec_qrAlign.f 400 (cent (v.val + 7)) (r.val : Nat) ((17 + 4 * (v.val + 7) - 11 + t.val : Nat) : Int) = some (-1) ∧
    F.spec_qrPattern.f 400 ((v.val + 7 : Nat) : Int) 30660 (cent (v.val + 7)) (r.val : Nat) ((17 + 4 * (v.val + 7) - 11 + t.val : Nat) : Int) = some (bitQ (vbits (v.val + 7)) ((r.val * 3 + t.val : Nat) : Int)) ∧
    givenP ((v.val + 7 : Nat) : Int) (17 + 4 * ((v.val + 7 : Nat) : Int)) (r.val : Nat) ((17 + 4 * (v.val + 7) - 11 + t.val : Nat) : Int) (-1) = true := by decide +kernel
/-- The version's bits. -/
theorem cell_ver (fm : Int) (v : Nat) (hv : 7 ≤ v ∧ v ≤ 40) (r t : Nat) (hr : r < 6) (ht : t < 3) (b : Bool) (h : CellIs fm v r ((17 + 4 * v - 11 + t : Nat) : Int) b) : b = bitQ (vbits v) ((r * 3 + t : Nat) : Int) := by
  obtain ⟨h1, h2, h3⟩ := ver_look ⟨v - 7, by omega⟩ ⟨r, hr⟩ ⟨t, ht⟩
  simp only [show v - 7 + 7 = v by omega] at h1 h2 h3
  have hal := Ev.of (F.spec_qrAlign.mono _ _ _) h1
  have hp := pattern_indep v (17 + 4 * (v : Int)) r ((17 + 4 * v - 11 + t : Nat) : Int) 30660 fm (cent v) (by omega) rfl (by omega) (by omega) (by unfold fmtP; repeat (first | rfl | (rw [if_neg (by omega)]))) _ (Ev.of (F.spec_qrPattern.mono _ _ _ _ _) h2)
  obtain ⟨al, ha, h | h⟩ := h
  · exact ev_uniq h.2 hp
  · have : al = -1 := ev_uniq ha hal
    rw [this, h3] at h
    exact absurd h.1 (by simp)
def vdi : List Int := [31892, 34236, 39577, 42195, 48118, 51042, 55367, 58893, 63784, 68472, 70749, 76311, 79154, 84390, 87683, 92361, 96236, 102084, 102881, 110507, 110734, 117786, 119615, 126325, 127568, 133589, 136944, 141498, 145311, 150283, 152622, 158308, 161089, 167017]
set_option maxRecDepth 100000 in
/-- The version's bits stand in the reader's table, once. -/
theorem vdi_look : ∀ v : Fin 34, vdi.getD v.val 0 = vbits (v.val + 7) ∧ ∀ i : Fin 34, i.val < v.val → vdi.getD i.val 0 ≠ vbits (v.val + 7) := by decide +kernel

/-! ### What is read of a symbol's patterns -/
theorem bitQ_nat (x b : Nat) (hx : x < 2147483648) (hb : b < 64) : bitQ (x : Int) (b : Int) = x.testBit b := by
  unfold bitQ shr
  have e1 : ((x : Int) / 2 ^ min ((b : Nat) : Int).toNat (IntKind.bits .i64)) = ((x / 2 ^ b : Nat) : Int) := by
    rw [Int.toNat_natCast, show min b (IntKind.bits .i64) = b from Nat.min_eq_left (by show b ≤ 64; omega), Int.natCast_ediv, Int.natCast_pow]
    rfl
  have hle : x / 2 ^ b ≤ x := Nat.div_le_self _ _
  have e2 := i64_and_nat (x / 2 ^ b) 1 (by omega) (by omega)
  rw [e1, show (1 : Int) = ((1 : Nat) : Int) from rfl, e2, Nat.and_one_is_mod, Nat.testBit_eq_decide_div_mod_eq]
  by_cases h : x / 2 ^ b % 2 = 1
  · rw [h]; rfl
  · rw [show x / 2 ^ b % 2 = 0 by omega]; rfl
theorem nacc_congr {g h : Nat → Bool} : ∀ n, (∀ k, k < n → g k = h k) → nacc g n = nacc h n := by
  intro n
  induction n with
  | zero => intro _; rfl
  | succ n ih => intro e; rw [nacc, nacc, ih (fun k hk => e k (by omega)), e n (by omega)]
theorem nacc_num (x n : Nat) (hx : x < 2 ^ n) : nacc (fun k => x.testBit (n - 1 - k)) n = x := by
  have h : ∀ k, k ≤ n → nacc (fun k => x.testBit (n - 1 - k)) k = x / 2 ^ (n - k) := by
    intro k
    induction k with
    | zero => intro _; rw [nacc, Nat.sub_zero, Nat.div_eq_of_lt hx]
    | succ k ih =>
      intro hk
      rw [nacc, ih (by omega), show n - k = (n - (k + 1)) + 1 by omega, Nat.pow_succ, ← Nat.div_div_eq_div_mul, show n - 1 - k = n - (k + 1) by omega, Nat.testBit_eq_decide_div_mod_eq]
      by_cases e : x / 2 ^ (n - (k + 1)) % 2 = 1
      · rw [decide_eq_true e]
        show 2 * (x / 2 ^ (n - (k + 1)) / 2) + 1 = _
        omega
      · rw [decide_eq_false e]
        show 2 * (x / 2 ^ (n - (k + 1)) / 2) + 0 = _
        omega
  have := h n (Nat.le_refl _)
  rwa [Nat.sub_self, Nat.pow_zero, Nat.div_one] at this
theorem cellOf_rows (n : Nat) (cf : Nat → Nat → Bool) (x y : Nat) (hx : x < n) (hy : y < n) : cellOf (rowsOfB n cf n) x y = cf y x := by
  unfold cellOf rowsOfB
  rw [List.getD_eq_getElem?_getD, List.getD_eq_getElem?_getD, List.getElem?_map, List.getElem?_range hy]
  simp only [Option.map_some, Option.getD_some]
  unfold rowOfB
  rw [List.getElem?_map, List.getElem?_range hx]
  rfl
theorem rowsOfB_square (n : Nat) (cf : Nat → Nat → Bool) (h1 : 1 ≤ n) (h2 : n ≤ 1000) : Square (rowsOfB n cf n) n := by
  have hrow : ∀ y, y < n → ((rowsOfB n cf n).getD y []).length = n := by
    intro y hy
    unfold rowsOfB
    rw [List.getD_eq_getElem?_getD, List.getElem?_map, List.getElem?_range hy]
    simp [rowOfB]
  exact ⟨by simp [rowsOfB], hrow 0 (by omega), fun y hy => by rw [hrow y hy]; omega⟩
/-- The rows say a symbol of version v and format F, as far as the patterns go. -/
structure Pats (F v : Nat) (f : Nat → Nat → Bool) : Prop where
  fmt : ∀ r c : Nat, r < 17 + 4 * v → c < 17 + 4 * v → ∀ b : Nat, fmtP (17 + 4 * (v : Int)) r c = b → f c r = F.testBit b
  ver : 7 ≤ v → ∀ r t : Nat, r < 6 → t < 3 → f (17 + 4 * v - 11 + t) r = (verTabN.getD (v - 7) 0).testBit (r * 3 + t)
theorem pats_fmt1 (F v : Nat) (hv : 1 ≤ v ∧ v ≤ 40) (f : Nat → Nat → Bool) (h : Pats F v f) (hF : F < 32768) : nacc (fat1 f) 15 = F := by
  have e : nacc (fat1 f) 15 = nacc (fun k => F.testBit (15 - 1 - k)) 15 := by
    apply nacc_congr
    intro k hk
    unfold fat1
    by_cases h1 : k < 6
    · rw [if_pos h1]
      exact h.fmt 8 k (by omega) (by omega) _ (by unfold fmtP; rw [if_neg (by omega), if_neg (by omega), if_neg (by omega), if_neg (by omega), if_pos (by omega)] <;> omega)
    · rw [if_neg h1]
      by_cases h2 : k = 6
      · subst h2
        rw [if_pos rfl]
        exact h.fmt 8 7 (by omega) (by omega) _ (by unfold fmtP; rw [if_neg (by omega), if_neg (by omega), if_neg (by omega), if_pos (by omega)] <;> omega)
      · rw [if_neg h2]
        by_cases h3 : k = 7
        · subst h3
          rw [if_pos rfl]
          exact h.fmt 8 8 (by omega) (by omega) _ (by unfold fmtP; rw [if_neg (by omega), if_neg (by omega), if_pos (by omega)] <;> omega)
        · rw [if_neg h3]
          by_cases h4 : k = 8
          · subst h4
            rw [if_pos rfl]
            exact h.fmt 7 8 (by omega) (by omega) _ (by unfold fmtP; rw [if_neg (by omega), if_pos (by omega)] <;> omega)
          · rw [if_neg h4]
            exact h.fmt (14 - k) 8 (by omega) (by omega) _ (by unfold fmtP; rw [if_pos (by omega)] <;> omega)
  rw [e]
  exact nacc_num F 15 hF
theorem pats_fmt2 (F v : Nat) (hv : 1 ≤ v ∧ v ≤ 40) (f : Nat → Nat → Bool) (h : Pats F v f) (hF : F < 32768) : nacc (fat2 f (17 + 4 * v)) 15 = F := by
  have e : nacc (fat2 f (17 + 4 * v)) 15 = nacc (fun k => F.testBit (15 - 1 - k)) 15 := by
    apply nacc_congr
    intro k hk
    unfold fat2
    by_cases h1 : k < 7
    · rw [if_pos h1]
      exact h.fmt (17 + 4 * v - 1 - k) 8 (by omega) (by omega) _ (by unfold fmtP; rw [if_neg (by omega), if_neg (by omega), if_neg (by omega), if_neg (by omega), if_neg (by omega), if_neg (by omega), if_pos (by omega)] <;> omega)
    · rw [if_neg h1]
      exact h.fmt 8 (17 + 4 * v - 15 + k) (by omega) (by omega) _ (by unfold fmtP; rw [if_neg (by omega), if_neg (by omega), if_neg (by omega), if_neg (by omega), if_neg (by omega), if_pos (by omega)] <;> omega)
  rw [e]
  exact nacc_num F 15 hF
theorem vacc_nacc (f : Nat → Nat → Bool) (n : Nat) : ∀ k, vacc f n k = nacc (fun k => f (n - 9 - k % 3) (5 - k / 3)) k := by
  intro k
  induction k with
  | zero => rfl
  | succ k ih => rw [vacc, nacc, ih]
theorem verTab_lim2 (i : Nat) : verTabN.getD i 0 < 2 ^ 18 := by
  by_cases h : i < 34
  · exact verTab_lim ⟨i, h⟩
  · rw [List.getD_eq_getElem?_getD, List.getElem?_eq_none (by show 34 ≤ i; omega)]
    decide
theorem pats_ver (F v : Nat) (hv : 1 ≤ v ∧ v ≤ 40) (f : Nat → Nat → Bool) (h : Pats F v f) (h7 : 7 ≤ v) : vacc f (17 + 4 * v) 18 = verTabN.getD (v - 7) 0 := by
  rw [vacc_nacc]
  have e : nacc (fun k => f (17 + 4 * v - 9 - k % 3) (5 - k / 3)) 18 = nacc (fun k => (verTabN.getD (v - 7) 0).testBit (18 - 1 - k)) 18 := by
    apply nacc_congr
    intro k hk
    have := h.ver h7 (5 - k / 3) (2 - k % 3) (by omega) (by omega)
    rw [show 17 + 4 * v - 11 + (2 - k % 3) = 17 + 4 * v - 9 - k % 3 by omega, show (5 - k / 3) * 3 + (2 - k % 3) = 18 - 1 - k by omega] at this
    exact this
  rw [e]
  exact nacc_num _ 18 (verTab_lim2 _)
theorem pats_verOK (F v : Nat) (hv : 1 ≤ v ∧ v ≤ 40) (f : Nat → Nat → Bool) (h : Pats F v f) : VerOK f v := by
  intro h7
  rw [pats_ver F v hv f h h7, hd_self]
  omega
theorem vbits_nat : ∀ v : Fin 34, vbits (v.val + 7) = ((verTabN.getD v.val 0 : Nat) : Int) := by decide +kernel
theorem pats_of_cells (F v : Nat) (hv : 1 ≤ v ∧ v ≤ 40) (hF : F < 32768) (cf : Nat → Nat → Bool) (h : ∀ r c : Nat, r < 17 + 4 * v → c < 17 + 4 * v → CellIs (F : Int) v r c (cf r c)) : Pats F v (fun x y => cf y x) := by
  refine ⟨?_, ?_⟩
  · intro r c hr hc b hb
    have := cell_fmt (F : Int) v hv r c _ (h r c hr hc) (by omega) (by omega) (by rw [hb]; omega)
    show cf r c = _
    rw [this, hb, bitQ_nat F b (by omega)]
    unfold fmtP at hb
    split at hb
    · omega
    · repeat (split at hb <;> first | omega | skip)
  · intro h7 r t hr ht
    have := cell_ver (F : Int) v ⟨h7, hv.2⟩ r t hr ht _ (h r (17 + 4 * v - 11 + t) (by omega) (by omega))
    show cf r _ = _
    have hvb := vbits_nat ⟨v - 7, by omega⟩
    simp only [show v - 7 + 7 = v by omega] at hvb
    rw [this, hvb, bitQ_nat _ _ (Nat.lt_trans (verTab_lim2 _) (by decide)) (by omega)]
theorem Pats.congr {F v : Nat} {f h : Nat → Nat → Bool} (P : Pats F v f) (e : ∀ x y, x < 17 + 4 * v → y < 17 + 4 * v → f x y = h x y) (hv : 1 ≤ v) : Pats F v h :=
  ⟨fun r c hr hc b hb => (e c r hc hr).symm.trans (P.fmt r c hr hc b hb), fun h7 r t hr ht => (e _ r (by omega) (by omega)).symm.trans (P.ver h7 r t hr ht)⟩

/-! ### FnQRNoSize: its parts by plain law -/
theorem w64n (i : Nat) (h : i ≤ 4294967296) : wrap64 ((i : Int) + 1) = ((i + 1 : Nat) : Int) := by unfold wrap64; omega
theorem fits7_some (rows : List (List Bool)) : ∃ b, Ev (fun k => F.laws_zzFits7.f k rows) b := by
  by_cases hl : (rows.length : Int) > 2147483647
  · exact ⟨false, Ev.congr (fun k => by rw [F.laws_zzFits7.f, if_pos hl]) (Ev.now _)⟩
  · have H : ∀ (d i : Nat), i + d = rows.length → ∃ b, Ev (fun k => F.laws_zzFits7.l0 k rows (rows.length : Int) (i : Int)) b := by
      intro d
      induction d with
      | zero =>
        intro i hi
        refine ⟨true, Ev.step (f := fun _ => some true) (fun k => ?_) (Ev.now _)⟩
        rw [F.laws_zzFits7.l0, if_neg (by omega)]
      | succ d ih =>
        intro i hi
        by_cases hr : ((F.rd_L1 rows (i : Int)).length : Int) > 2147483647
        · refine ⟨false, Ev.step (f := fun _ => some false) (fun k => ?_) (Ev.now _)⟩
          rw [F.laws_zzFits7.l0, if_pos (by omega), if_pos (by omega), if_pos (by omega), if_pos hr]
        · obtain ⟨b, hb⟩ := ih (i + 1) (by omega)
          refine ⟨b, Ev.step (fun k => ?_) hb⟩
          rw [F.laws_zzFits7.l0, if_pos (by omega), if_pos (by omega), if_pos (by omega), if_neg hr, w64n i (by omega)]
    obtain ⟨b, hb⟩ := H rows.length 0 (by omega)
    exact ⟨b, Ev.congr (fun k => by rw [F.laws_zzFits7.f, if_neg hl]; rfl) hb⟩
/-- n rows, of which the first i have n modules. -/
def Sq (n i : Nat) (x : List (List Bool)) : Prop := x.length = n ∧ ∀ y, y < i → (x.getD y []).length = n
theorem getD_set_rows (x : List (List Bool)) (i j : Nat) (r : List Bool) (hi : i < x.length) : (x.set i r).getD j [] = if i = j then r else x.getD j [] := by
  rw [List.getD_eq_getElem?_getD, List.getD_eq_getElem?_getD, List.getElem?_set]
  by_cases e : i = j
  · subst e; simp [hi]
  · simp [e]
theorem Sq.set {n i : Nat} {x : List (List Bool)} (h : Sq n i x) (j : Nat) (r : List Bool) (hj : j < n) (hr : r.length = n) : Sq n i (x.set j r) := by
  refine ⟨by rw [List.length_set, h.1], fun y hy => ?_⟩
  rw [getD_set_rows _ _ _ _ (by rw [h.1]; exact hj)]
  split
  · exact hr
  · exact h.2 y hy
theorem Sq.next {n i : Nat} {x : List (List Bool)} (h : Sq n i x) (r : List Bool) (hi : i < n) (hr : r.length = n) : Sq n (i + 1) (x.set i r) := by
  refine ⟨by rw [List.length_set, h.1], fun y hy => ?_⟩
  rw [getD_set_rows _ _ _ _ (by rw [h.1]; exact hi)]
  by_cases e : i = y
  · rw [if_pos e, hr]
  · rw [if_neg e, h.2 y (by omega)]
theorem square_run (rows : List (List Bool)) (n : Nat) (hn : n = min rows.length 60) : ∃ x, Ev (fun k => F.laws_qrSquare.f k rows) x ∧ Sq n n x := by
  have H0 : ∀ (d i : Nat) (x : List (List Bool)), i + d = n → Sq n i x → ∃ y, Ev (fun k => F.laws_qrSquare.l0 k rows (n : Int) x (n : Int) (i : Int)) y ∧ Sq n n y := by
    intro d
    induction d with
    | zero =>
      intro i x hi hx
      obtain rfl : i = n := by omega
      refine ⟨x, Ev.step (f := fun _ => some x) (fun k => ?_) (Ev.now _), hx⟩
      rw [F.laws_qrSquare.l0, if_neg (by omega)]
    | succ d ih =>
      intro i x hi hx
      have H1 : ∀ (e c : Nat) (z : List (List Bool)), c + e = n → Sq n (i + 1) z → ∃ y, Ev (fun k => F.laws_qrSquare.l1 k rows (n : Int) z (i : Int) (c : Int) (n : Int) (i : Int)) y ∧ Sq n n y := by
        intro e
        induction e with
        | zero =>
          intro c z hc hz
          obtain ⟨y, hy, hs⟩ := ih (i + 1) z (by omega) hz
          refine ⟨y, Ev.step (fun k => ?_) hy, hs⟩
          rw [F.laws_qrSquare.l1, if_neg (by omega), w64n i (by omega)]
        | succ e ih1 =>
          intro c z hc hz
          by_cases hrow : (c : Int) < ((F.rd_L1 rows (i : Int)).length : Int)
          · have hlen : (F.rd_L1 z (i : Int)).length = n := by
              unfold F.rd_L1
              rw [Int.toNat_natCast]
              exact hz.2 i (by omega)
            have hz2 := hz.set i ((F.rd_L1 z (i : Int)).set c (rdOf false (F.rd_L1 rows (i : Int)) (c : Int))) (by omega) (by rw [List.length_set, hlen])
            obtain ⟨y, hy, hs⟩ := ih1 (c + 1) _ (by omega) hz2
            refine ⟨y, Ev.step (fun k => ?_) hy, hs⟩
            rw [F.laws_qrSquare.l1, if_pos (by omega), if_pos (by omega), if_pos (by omega), if_pos hrow, if_pos (by rw [hz.1]; omega), if_pos (by omega), if_pos (by rw [hlen]; omega), w64n c (by omega), Int.toNat_natCast, Int.toNat_natCast]
          · obtain ⟨y, hy, hs⟩ := ih (i + 1) z (by omega) hz
            refine ⟨y, Ev.step (fun k => ?_) hy, hs⟩
            rw [F.laws_qrSquare.l1, if_pos (by omega), if_pos (by omega), if_pos (by omega), if_neg hrow, w64n i (by omega)]
      have hx2 := hx.next (List.replicate n false) (by omega) (by simp)
      obtain ⟨y, hy, hs⟩ := H1 n 0 _ (by omega) hx2
      refine ⟨y, Ev.step (fun k => ?_) hy, hs⟩
      rw [F.laws_qrSquare.l0, if_pos (by omega), if_pos (by omega), if_pos (by omega), if_pos (by omega), if_pos (by rw [hx.1]; omega), Int.toNat_natCast, Int.toNat_natCast]
      rfl
  have hmn : mn (rows.length : Int) 60 = (n : Int) := by unfold mn; split <;> omega
  obtain ⟨x, hx, hs⟩ := H0 n 0 (List.replicate n []) (by omega) ⟨by simp, fun _ h => by omega⟩
  refine ⟨x, Ev.congr (fun k => ?_) hx, hs⟩
  rw [F.laws_qrSquare.f, hmn, if_pos (by omega), if_pos (by omega), Option.bind_some, Int.toNat_natCast, List.length_replicate]
  rfl
theorem Sq.square {n : Nat} {x : List (List Bool)} (h : Sq n n x) (h1 : 1 ≤ n) (h2 : n ≤ 1000) : Square x n :=
  ⟨h.1, h.2 0 (by omega), fun y hy => by rw [h.2 y hy]; omega⟩
theorem version_some (a : Nat) (h : a < 256) : F.laws_qrVersion.f (a : Int) = some ((1 + a % 40 : Nat) : Int) := by
  unfold F.laws_qrVersion.f
  have e1 : wrap64 (a : Int) = (a : Int) := by unfold wrap64; omega
  rw [e1, Int.tmod_eq_emod_of_nonneg (by omega)]
  have e2 : wrap64 (1 + (a : Int) % 40) = ((1 + a % 40 : Nat) : Int) := by unfold wrap64; omega
  rw [e2]
theorem noSize_read (w : World) (A : Option Addr) (c v : Nat) (hv : 1 ≤ v ∧ v ≤ 40) (cf : Nat → Nat → Bool) (hcf : ∀ r c : Nat, r < 17 + 4 * v → c < 17 + 4 * v → CellIs 30660 v r c (cf r c))
    (hr : BRows w A (rowsOfB (17 + 4 * v) cf (17 + 4 * v))) (hc : (rowsOfB (17 + 4 * v) cf (17 + 4 * v)).length ≤ c) :
    Calls Tryz.prog 13 #[.slice A (17 + 4 * v) c] w fun e w' => e = .returned (.tuple #[.int .i64 (v : Int), .int .i64 1, .int .i64 0, .bool true]) ∧ Below w.heap.size w w' := by
  have hP : Pats 30660 v (cellOf (rowsOfB (17 + 4 * v) cf (17 + 4 * v))) := (pats_of_cells 30660 v hv (by omega) cf hcf).congr (fun x y hx hy => (cellOf_rows _ cf x y hx hy).symm) hv.1
  have h1 := pats_fmt1 30660 v hv _ hP (by omega)
  have h2 := pats_fmt2 30660 v hv _ hP (by omega)
  refine (qrRead_ok w A c _ v 8 hr hc (rowsOfB_square _ cf (by omega) (by omega)) hv (pats_verOK 30660 v hv _ hP) (by omega) ?_).mono ?_
  · rw [h1, h2]
    exact fmt_found 8 30660 30660 (by omega) (by decide) (by decide)
  · rintro e w' ⟨rfl, hb⟩
    exact ⟨rfl, hb⟩

/-! ### FnQRNoSize: its walk -/
theorem BRows.below {w w' : World} {A : Option Addr} {rows : List (List Bool)} (h : BRows w A rows) (hb : Below w.heap.size w w') : BRows w' A rows := Kd.C_below h hb
theorem of_S {e : Nat} {w : World} {base : Nat} {ok : Nat → Prop} {v : Value} {rows : List (List Bool)} (h : Kd.S (Kd.slice 4 Kd.bool) e w base ok v rows) : ∃ A c, v = .slice A rows.length c ∧ rows.length ≤ c ∧ BRows w A rows := Kd.S_reads h
set_option maxHeartbeats 4000000 in
theorem noSize_law (w : World) (A : Option Addr) (c : Nat) (rows : List (List Bool)) (a : Nat) (hr : BRows w A rows) (hc : rows.length ≤ c) (ha : a < 256) :
    Calls Tryz.prog 3 #[.slice A rows.length c, .int .u8 (a : Int)] w fun e w' => e = .returned (.bool true) ∧ Below w.heap.size w w' := by
  obtain ⟨b, hb⟩ := fits7_some rows
  obtain ⟨k, hk⟩ := hb.rounds
  have c9 := F.laws_zzFits7.calls k A c rows b w hr hc hk
  have HR := Aside0.mk hr
  have HC := Aside0.mk hc
  clear hr hc hk hb
  cases b with
  | false =>
    go_enter Tryz.func3, Tryz.ntmps3
    go_wp2_with (go_at_call 9; refine c9.mono ?_; rintro e w' ⟨rfl, hd⟩)
    go_ret
    exact ⟨rfl, hd.below⟩
  | true =>
    obtain ⟨x, hx, hsq⟩ := square_run rows (min rows.length 60) rfl
    obtain ⟨k2, hk2⟩ := hx.rounds
    have HK2 := Aside0.mk hk2
    obtain ⟨n, hn⟩ : ∃ n, min rows.length 60 = n := ⟨_, rfl⟩
    rw [hn] at hsq
    have hn60 : n ≤ 60 := by omega
    have HSQ := Aside0.mk hsq
    have hxl : x.length = n := hsq.1
    have HXL := Aside0.mk hxl
    have c11 := fun W => F.laws_qrVersion.calls (a : Int) _ W (version_some a ha)
    obtain ⟨v, hv⟩ : ∃ v, 1 + a % 40 = v := ⟨_, rfl⟩
    rw [hv] at c11
    have hv1 : 1 ≤ v := by omega
    have hv2 : v ≤ 40 := by omega
    obtain ⟨cf, hcf, hpat⟩ := patterns_run 30660 1 0 fmt10 v ⟨hv1, hv2⟩
    obtain ⟨k3, hk3⟩ := hpat.rounds
    have HCF := Aside0.mk hcf
    have HK3 := Aside0.mk hk3
    have HC11 := Aside0.mk c11
    clear hk2 hx hsq hn hxl hv hcf hpat hk3 c11
    have g15 : ∀ w1 : World, Calls Tryz.prog 15 #[.int .i64 (v : Int), .int .i64 1, .int .i64 0] w1 (fun e w2 => ∃ A2 c2, e = .returned (.slice A2 (17 + 4 * v) c2) ∧ Aside0 (17 + 4 * v ≤ c2) ∧ Aside0 (BRows w2 A2 (rowsOfB (17 + 4 * v) cf (17 + 4 * v))) ∧ Aside0 (Below w1.heap.size w1 w2)) := by
      intro w1
      refine (F.spec_QRPatterns.calls k3 (v : Int) 1 0 _ w1 HK3.out).mono ?_
      rintro e w2 ⟨v2, rfl, hS, hB⟩
      obtain ⟨A2, c2, rfl, hc2, hR2⟩ := of_S hS
      have hlen : (rowsOfB (17 + 4 * v) cf (17 + 4 * v)).length = 17 + 4 * v := rowsOfB_len _ _ _
      exact ⟨A2, c2, by rw [hlen], ⟨by rw [hlen] at hc2; exact hc2⟩, ⟨hR2⟩, ⟨hB⟩⟩
    have G15 := Aside0.mk g15
    clear g15
    have hcase : ((1 ≤ n ∧ BadSize n) ∧ ((1 ≤ n ∧ n < 21) ∨ (21 ≤ n ∧ ((n : Int) % 4 != 1) = true))) ∨ (n = 0 ∨ (21 ≤ n ∧ ((n : Int) % 4 != 1) = false)) := by
      by_cases h0 : n = 0
      · exact .inr (.inl h0)
      · by_cases h1 : n < 21
        · exact .inl ⟨⟨by omega, .inl h1⟩, .inl ⟨by omega, h1⟩⟩
        · by_cases h2 : n % 4 = 1
          · refine .inr (.inr ⟨by omega, ?_⟩)
            have : (n : Int) % 4 = 1 := by omega
            rw [this]; rfl
          · refine .inl ⟨⟨by omega, .inr h2⟩, .inr ⟨by omega, ?_⟩⟩
            rw [bne_iff_ne]; omega
    have tail : ∀ (w4 : World), Below w.heap.size w w4 → ∀ (Q : Ending → World → Prop), (∀ w5, Below w.heap.size w w5 → Q (.returned (.tuple #[.int .i64 (v : Int), .int .i64 1, .int .i64 0, .bool true])) w5) → True := fun _ _ _ _ => trivial
    clear tail
    rcases hcase with ⟨⟨hn1, hbs⟩, hwhy⟩ | hwhy
    · have HBS := Aside0.mk hbs
      clear hbs
      rcases hwhy with ⟨hn1', h21⟩ | ⟨h21, hm⟩
      all_goals
        go_enter Tryz.func3, Tryz.ntmps3
        go_wp2_with fail
        refine c9.mono ?_
        rintro e w1 ⟨rfl, hd1⟩
        have HB1 := Aside0.mk hd1.below
        clear hd1
        go_wp2_with fail
        refine (F.laws_qrSquare.calls k2 A c rows x w1 (HR.out.below HB1.out) HC.out HK2.out).mono ?_
        rintro e w2 ⟨v2, rfl, hS2, hb2⟩
        obtain ⟨A2, c2, rfl, hc2, hR2⟩ := of_S hS2
        rw [HXL.out]
        have HB2 := Aside0.mk (HB1.out.trans (hb2.mono HB1.out.size))
        have HR2 := Aside0.mk hR2
        have HC2 := Aside0.mk hc2
        clear hS2 hb2 hR2 hc2
        go_wp2_with fail
        refine (HC11.out w2).mono ?_
        rintro e w3 ⟨rfl, hd3⟩
        have HB3 := Aside0.mk hd3.below
        clear hd3
        go_wp2_with fail
        refine (qrDecode_bad w3 A2 c2 x n (HR2.out.below HB3.out) HC2.out (HSQ.out.square hn1 (by omega)) hn1 (by omega) HBS.out).mono ?_
        rintro e w4 ⟨rfl, hb4⟩
        have HB4 := Aside0.mk (HB3.out.trans (hb4.mono HB3.out.size))
        clear hb4
        unfold zeroDec
        go_wp2_with fail
        have HB5 := Aside0.mk (below_alloc HB4.out (.cells #[.string ⟨#[]⟩, .slice none 0 0, .slice none 0 0, .string ⟨#[]⟩, .int .i64 0, .int .i64 0, .int .i64 0, .int .i64 0] 29))
        obtain ⟨w5, hw5⟩ : ∃ w5, w5 = w4.alloc (.cells #[.string ⟨#[]⟩, .slice none 0 0, .slice none 0 0, .string ⟨#[]⟩, .int .i64 0, .int .i64 0, .int .i64 0, .int .i64 0] 29) := ⟨_, rfl⟩
        rw [← hw5] at HB5 ⊢
        clear hw5
        refine (qrRead_bad w5 A2 c2 x n (HR2.out.below HB5.out) HC2.out (HSQ.out.square hn1 (by omega)) hn1 (by omega) HBS.out).mono ?_
        rintro e w6 ⟨rfl, hb6⟩
        have HB6 := Aside0.mk (HB5.out.trans (hb6.mono HB5.out.size))
        clear hb6
        go_wp2_with fail
        refine (qrWords_bad w6 A2 c2 x n (HR2.out.below HB6.out) HC2.out (HSQ.out.square hn1 (by omega)) hn1 (by omega) HBS.out).mono ?_
        rintro e w7 ⟨rfl, hb7⟩
        have HB7 := Aside0.mk (HB6.out.trans (hb7.mono HB6.out.size))
        clear hb7
        go_wp2_with fail
        refine (G15.out w7).mono ?_
        rintro e w8 ⟨A3, c3, rfl, HC3, HR3, hb8⟩
        go_wp2_with fail
        refine (noSize_read w8 A3 c3 v ⟨hv1, hv2⟩ cf HCF.out HR3.out (by rw [rowsOfB_len]; exact HC3.out)).mono ?_
        rintro e w9 ⟨rfl, hb9⟩
        go_wp2_with fail
        go_ret
        refine ⟨by simp, ?_⟩
        have t1 : Below w2.heap.size w2 w8 := HB7.out.trans (hb8.out.mono HB7.out.size)
        have t2 : Below w2.heap.size w2 w9 := t1.trans (hb9.mono t1.size)
        exact HB2.out.trans (t2.mono HB2.out.size)
    · rcases hwhy with hz | ⟨h21, hm⟩
      · subst hz
        go_enter Tryz.func3, Tryz.ntmps3
        go_wp2_with fail
        refine c9.mono ?_
        rintro e w1 ⟨rfl, hd1⟩
        have HB1 := Aside0.mk hd1.below
        clear hd1
        go_wp2_with fail
        refine (F.laws_qrSquare.calls k2 A c rows x w1 (HR.out.below HB1.out) HC.out HK2.out).mono ?_
        rintro e w2 ⟨v2, rfl, hS2, hb2⟩
        obtain ⟨A2, c2, rfl, hc2, hR2⟩ := of_S hS2
        rw [HXL.out]
        have HB2 := Aside0.mk (HB1.out.trans (hb2.mono HB1.out.size))
        clear hS2 hb2 hR2 hc2
        go_wp2_with fail
        refine (HC11.out w2).mono ?_
        rintro e w3 ⟨rfl, hd3⟩
        have HB3 := Aside0.mk hd3.below
        clear hd3
        go_wp2_with fail
        refine (G15.out w3).mono ?_
        rintro e w8 ⟨A3, c3, rfl, HC3, HR3, hb8⟩
        go_wp2_with fail
        refine (noSize_read w8 A3 c3 v ⟨hv1, hv2⟩ cf HCF.out HR3.out (by rw [rowsOfB_len]; exact HC3.out)).mono ?_
        rintro e w9 ⟨rfl, hb9⟩
        go_wp2_with fail
        go_ret
        refine ⟨by simp, ?_⟩
        have t1 : Below w2.heap.size w2 w8 := HB3.out.trans (hb8.out.mono HB3.out.size)
        have t2 : Below w2.heap.size w2 w9 := t1.trans (hb9.mono t1.size)
        exact HB2.out.trans (t2.mono HB2.out.size)
      · go_enter Tryz.func3, Tryz.ntmps3
        go_wp2_with fail
        refine c9.mono ?_
        rintro e w1 ⟨rfl, hd1⟩
        have HB1 := Aside0.mk hd1.below
        clear hd1
        go_wp2_with fail
        refine (F.laws_qrSquare.calls k2 A c rows x w1 (HR.out.below HB1.out) HC.out HK2.out).mono ?_
        rintro e w2 ⟨v2, rfl, hS2, hb2⟩
        obtain ⟨A2, c2, rfl, hc2, hR2⟩ := of_S hS2
        rw [HXL.out]
        have HB2 := Aside0.mk (HB1.out.trans (hb2.mono HB1.out.size))
        clear hS2 hb2 hR2 hc2
        go_wp2_with fail
        refine (HC11.out w2).mono ?_
        rintro e w3 ⟨rfl, hd3⟩
        have HB3 := Aside0.mk hd3.below
        clear hd3
        go_wp2_with fail
        refine (G15.out w3).mono ?_
        rintro e w8 ⟨A3, c3, rfl, HC3, HR3, hb8⟩
        go_wp2_with fail
        refine (noSize_read w8 A3 c3 v ⟨hv1, hv2⟩ cf HCF.out HR3.out (by rw [rowsOfB_len]; exact HC3.out)).mono ?_
        rintro e w9 ⟨rfl, hb9⟩
        go_wp2_with fail
        go_ret
        refine ⟨by simp, ?_⟩
        have t1 : Below w2.heap.size w2 w8 := HB3.out.trans (hb8.out.mono HB3.out.size)
        have t2 : Below w2.heap.size w2 w9 := t1.trans (hb9.mono t1.size)
        exact HB2.out.trans (t2.mono HB2.out.size)

/-! ### An argument of rows of bools, opened -/
theorem brows_mk {w : World} {ad : Addr} {len : Nat} {A : Nat → Option Addr} {L C : Nat → Nat} {B : Nat → Nat → Bool} (hm : len ≤ 9223372036854775807)
    (h : ∀ r, r < len → w.cell? (ad.add r) = some (.slice (A r) (L r) (C r)) ∧ L r ≤ C r ∧ C r ≤ maxLen ∧ (A r = none → C r = 0) ∧ ∀ a', A r = some a' → ∀ c, c < C r → w.cell? (a'.add c) = some (.bool (B r c))) :
    BRows w (some ad) ((List.range len).map fun r => (List.range (L r)).map (B r)) := by
  unfold BRows
  have hl : ((List.range len).map fun r => (List.range (L r)).map (B r)).length = len := by simp
  rw [hl]
  refine ⟨hl, hm, fun _ => ⟨ad, rfl, fun j p hj => ?_⟩⟩
  have hjl : j < len := by
    have := (List.getElem?_eq_some_iff.1 hj).1
    rwa [hl] at this
  rw [List.getElem?_map, List.getElem?_range hjl] at hj
  obtain rfl := Option.some.inj hj
  obtain ⟨h1, h2, h3, h4, h5⟩ := h j hjl
  have hrl : ((List.range (L j)).map (B j)).length = L j := by simp
  refine ⟨[.slice (A j) (L j) (C j)], rfl, ⟨A j, C j, by rw [hrl], by rw [hrl]; exact h2, ?_⟩, ?_⟩
  · refine Kd.C_of_reads (enc := Value.bool) (d := false) (h1 := fun _ => rfl) ⟨by rw [hrl], by rw [hrl]; unfold maxLen at h3; omega, fun hp => ?_⟩
    rw [hrl] at hp
    cases hA : A j with
    | none => have := h4 hA; omega
    | some a' =>
      refine ⟨a', rfl, fun i hi => ?_⟩
      rw [hrl] at hi
      rw [h5 a' hA i (by omega), List.getD_eq_getElem?_getD, List.getElem?_map, List.getElem?_range hi]
      rfl
  · intro i u hu
    cases i with
    | zero =>
      obtain rfl : Value.slice (A j) (L j) (C j) = u := by simpa using hu
      show w.cell? (ad.add (j * 1 + 0)) = _
      rw [Nat.mul_one, Nat.add_zero]
      exact h1
    | succ i => simp at hu
/-- What an argument of rows of bools reads as. -/
theorem grid_open {H : Type} {enc : TypeId × Value → H} {P : Program} {w : World} {base : Nat} {held : Bool} {t e q : TypeId} {a : Option Addr} {len cap : Nat} {x : DataW H × List MemPlace} (ht : P.underlying t = some (.slice e)) (he : P.underlying e = some (.slice q)) (hq : P.underlying q = some .bool)
    (ce : P.cellsOf e = 1) (cq : P.cellsOf q = 1) (h : ∃ fuel, DataW.trod enc P w base (fun _ => true) held fuel t [.slice a len cap] = some x) : ∃ rows, rows.length = len ∧ len ≤ cap ∧ BRows w a rows := by
  obtain ⟨fuel, h⟩ := h
  rcases Go.Deep.open_bool_rows ht he hq ce cq h with ⟨hcs, _⟩ | ⟨ad, l, c, A, L, C, B, hcs, _, hl, hm, _, hcell⟩
  · simp at hcs
    obtain ⟨rfl, rfl, rfl⟩ := hcs
    exact ⟨[], rfl, Nat.le_refl _, Kd.C_nil _ w⟩
  · simp at hcs
    obtain ⟨rfl, rfl, rfl⟩ := hcs
    refine ⟨(List.range len).map fun r => (List.range (L r)).map (B r), by simp, hl, ?_⟩
    refine brows_mk (A := A) (L := L) (C := C) (B := B) (by unfold maxLen at hm; omega) (fun r hr => ?_)
    obtain ⟨h1, h2, h3, h4, h5⟩ := hcell r (by omega)
    exact ⟨h1, h2, h3, h4, fun a' ha => (h5 a' ha).2⟩
theorem u8_bounds {n : Int} (h : (Lit.int .u8 n).wf = true) : 0 ≤ n ∧ n ≤ 255 := by
  unfold Lit.wf at h
  simp [IntKind.min, IntKind.max, IntKind.bits, IntKind.signed] at h
  omega
theorem noSize_row (w : World) (A : Option Addr) (c : Nat) (rows : List (List Bool)) (a : Nat) (hr : BRows w A rows) (hc : rows.length ≤ c) (ha : a < 256) :
    Calls Tryz.prog 3 #[.slice A rows.length c, .int .u8 (a : Int)] w fun e w' => e = .returned (.bool true) ∧ Below w.heap.size w w' := noSize_law w A c rows a hr hc ha
end Go.Proofs.YtgccjgpdjkhpdaaGreat.B
