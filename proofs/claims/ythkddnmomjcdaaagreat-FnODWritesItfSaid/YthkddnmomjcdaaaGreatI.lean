import Derived.Test.YthkddnmomjcdaaaGreatH
import Derived.Test.YthkddnmomjcdaaaGreatF173
import Derived.Test.YthkddnmomjcdaaaGreatF174
import Derived.Test.YthkddnmomjcdaaaGreatF175
namespace Go.Proofs.YthkddnmomjcdaaaGreat.B
open Go.RowKit Go.Proofs.YthkddnmomjcdaaaGreatW.PrintWords Go.Proofs.YthkddnmomjcdaaaGreatW.PrintLast Go.Proofs.YthkddnmomjcdaaaGreatW.PrintMore
set_option linter.unusedVariables false
set_option linter.unusedSimpArgs false

def itfPats : List (List Int) := [[1, 1, 3, 3, 1], [3, 1, 1, 1, 3], [1, 3, 1, 1, 3], [3, 3, 1, 1, 1], [1, 1, 3, 1, 3], [3, 1, 3, 1, 1], [1, 3, 3, 1, 1], [1, 1, 1, 3, 3], [3, 1, 1, 3, 1], [1, 3, 1, 3, 1]]
def itfPat (d : Nat) : List Int := itfPats.getD d []
def inter : List Int → List Int → List Int
  | a :: l, b :: m => a :: b :: inter l m
  | _, _ => []
def itfBody : List Nat → List Bool
  | a :: b :: r => bars true (inter (itfPat a) (itfPat b)) ++ itfBody r
  | _ => []
def itfCode (ds : List Nat) : List Bool := bars true [1, 1, 1, 1] ++ itfBody ds ++ bars true [3, 1, 1]

/-- A text of digits. -/
def IsDigits (t : ByteArray) (ds : List Nat) : Prop := t.data.toList = ds.map (fun d => UInt8.ofNat (48 + d)) ∧ ∀ d ∈ ds, d < 10

theorem pats174 (w : World) : Calls Tryz.prog 174 #[] w fun e w' => ∃ A c, e = .returned (.slice A 10 c) ∧ Kd.C (Kd.slice 3 (Kd.int .i64)) w' A 10 itfPats ∧ Below w.heap.size w w' := by
  refine (F.oned_itfWriter_PATTERNS.calls itfPats w rfl).mono ?_
  rintro e w' ⟨v, rfl, hn, hb⟩
  obtain ⟨A, c, rfl, _, hc⟩ := Kd.N_reads hn
  exact ⟨A, c, rfl, hc, hb⟩
theorem pat173 (w : World) : Calls Tryz.prog 173 #[] w fun e w' => ∃ A c, e = .returned (.slice A 4 c) ∧ 4 ≤ c ∧ Kd.C (Kd.int .i64) w' A 4 [1, 1, 1, 1] ∧ Below w.heap.size w w' := by
  refine (F.oned_itfWriter_START_PATTERN.calls [1, 1, 1, 1] w rfl).mono ?_
  rintro e w' ⟨v, rfl, hn, hb⟩
  obtain ⟨A, c, rfl, hcc, hc⟩ := Kd.R_reads hn
  exact ⟨A, c, rfl, hcc, hc, hb⟩
theorem pat175 (w : World) : Calls Tryz.prog 175 #[] w fun e w' => ∃ A c, e = .returned (.slice A 3 c) ∧ 3 ≤ c ∧ Kd.C (Kd.int .i64) w' A 3 [3, 1, 1] ∧ Below w.heap.size w w' := by
  refine (F.oned_itfWriter_END_PATTERN.calls [3, 1, 1] w rfl).mono ?_
  rintro e w' ⟨v, rfl, hn, hb⟩
  obtain ⟨A, c, rfl, hcc, hc⟩ := Kd.R_reads hn
  exact ⟨A, c, rfl, hcc, hc, hb⟩

theorem digits_get {t : ByteArray} {ds : List Nat} (h : IsDigits t ds) (i : Nat) (hi : i < t.size) : ∃ hd : i < ds.length, (t[i]'hi).toNat = 48 + ds[i] ∧ ds[i] < 10 := by
  have hl : t.data.toList.length = ds.length := by rw [h.1, List.length_map]
  have hd : i < ds.length := by rw [← hl, data_length]; exact hi
  refine ⟨hd, ?_, h.2 _ (List.getElem_mem hd)⟩
  have e : t[i]'hi = t.data.toList[i]'(by rw [data_length]; exact hi) := rfl
  have h9 := h.2 _ (List.getElem_mem hd)
  rw [e]
  simp only [h.1, List.getElem_map]
  show (48 + ds[i]) % 256 = 48 + ds[i]
  omega
theorem digits_all {t : ByteArray} {ds : List Nat} (h : IsDigits t ds) : ∀ i (hi : i < t.size), isDig (t[i]'hi) := by
  intro i hi
  obtain ⟨_, h1, h2⟩ := digits_get h i hi
  unfold isDig
  omega
/-- A cell of the patterns, at the end of a call of the table. -/
theorem pat_cell {w : World} {A : Option Addr} (h : Kd.C (Kd.slice 3 (Kd.int .i64)) w A 10 itfPats) (a : Nat) (ha : a < 10) (q : Nat) (hq : q < 5) :
    ∃ ad ad2 c, A = some ad ∧ w.cell? (ad.add a) = some (.slice (some ad2) 5 c) ∧ 5 ≤ c ∧ w.cell? (ad2.add q) = some (.int .i64 (rd (itfPat a) q)) := by
  obtain ⟨ad, A0, c0, e, h1, h2, h3⟩ := F.at_L5 h (a : Int) (by omega) (by omega)
  have hl : (F.rd_L5 itfPats a).length = 5 := by
    have : ∀ a : Fin 10, (F.rd_L5 itfPats (a : Nat)).length = 5 := by decide
    exact this ⟨a, ha⟩
  obtain ⟨ad2, e2, h4⟩ := Kd.at_int h3 (q : Int) (by omega) (by omega)
  subst e2
  rw [hl] at h1 h2
  exact ⟨ad, ad2, c0, e, h1, h2, h4⟩
theorem inter_step (a b : Nat) (ha : a < 10) (hb : b < 10) (q : Nat) (hq : q < 5) : inter ((itfPat a).take q) ((itfPat b).take q) ++ [rd (itfPat a) q] ++ [rd (itfPat b) q] = inter ((itfPat a).take (q + 1)) ((itfPat b).take (q + 1)) := by
  have : ∀ (a b : Fin 10) (q : Fin 5), inter ((itfPat a).take q) ((itfPat b).take q) ++ [rd (itfPat a) (q : Nat)] ++ [rd (itfPat b) (q : Nat)] = inter ((itfPat a).take (q + 1)) ((itfPat b).take (q + 1)) := by decide +kernel
  exact this ⟨a, ha⟩ ⟨b, hb⟩ ⟨q, hq⟩
theorem inter_len (a b : Nat) (ha : a < 10) (hb : b < 10) (q : Nat) (hq : q ≤ 5) : (inter ((itfPat a).take q) ((itfPat b).take q)).length = 2 * q := by
  have : ∀ (a b : Fin 10) (q : Fin 6), (inter ((itfPat a).take q) ((itfPat b).take q)).length = 2 * q := by decide +kernel
  exact this ⟨a, ha⟩ ⟨b, hb⟩ ⟨q, by omega⟩
theorem pat_take (a : Nat) (ha : a < 10) : (itfPat a).take 5 = itfPat a := by
  have : ∀ (a : Fin 10), (itfPat a).take 5 = itfPat a := by decide +kernel
  exact this ⟨a, ha⟩
theorem inter_pos (a b : Nat) (ha : a < 10) (hb : b < 10) : ∀ p ∈ inter (itfPat a) (itfPat b), 0 ≤ p ∧ p ≤ 1000000 := by
  have : ∀ (a b : Fin 10), ∀ p ∈ inter (itfPat a) (itfPat b), 0 ≤ p ∧ p ≤ 1000000 := by decide +kernel
  exact this ⟨a, ha⟩ ⟨b, hb⟩
theorem inter_bars (a b : Nat) (ha : a < 10) (hb : b < 10) : (bars true (inter (itfPat a) (itfPat b))).length = 18 := by
  have : ∀ (a b : Fin 10), (bars true (inter (itfPat a) (itfPat b))).length = 18 := by decide +kernel
  exact this ⟨a, ha⟩ ⟨b, hb⟩
theorem itfBody_length : ∀ (ds : List Nat), (∀ d ∈ ds, d < 10) → ∀ k, ds.length = 2 * k → (itfBody ds).length = 18 * k
  | [], _, k, h => by
    have : k = 0 := by simp at h; omega
    subst this
    rfl
  | [a], _, k, h => by simp at h; omega
  | a :: b :: r, hd, k, h => by
    obtain ⟨m, rfl⟩ : ∃ m, k = m + 1 := ⟨k - 1, by simp at h; omega⟩
    have ih := itfBody_length r (fun d hm => hd d (by simp [hm])) m (by simp at h; omega)
    simp only [itfBody, List.length_append, ih, inter_bars a b (hd a (by simp)) (hd b (by simp))]
    omega
theorem take_lt {t : ByteArray} {ds : List Nat} (h : IsDigits t ds) (j : Nat) : ∀ d ∈ ds.take j, d < 10 := fun d hd => h.2 d (List.mem_of_mem_take hd)
theorem itfBody_snoc : ∀ (k : Nat) (ds : List Nat) (h : 2 * k + 1 < ds.length), itfBody (ds.take (2 * k + 2)) = itfBody (ds.take (2 * k)) ++ bars true (inter (itfPat (ds.getD (2 * k) 0)) (itfPat (ds.getD (2 * k + 1) 0)))
  | 0, a :: b :: r, h => by simp [itfBody]
  | k + 1, a :: b :: r, h => by
    have ih := itfBody_snoc k r (by simp at h; omega)
    have e1 : 2 * (k + 1) + 2 = (2 * k + 2) + 2 := by omega
    have e2 : 2 * (k + 1) = (2 * k) + 2 := by omega
    have e3 : 2 * (k + 1) + 1 = (2 * k + 1) + 2 := by omega
    rw [e1, e3, e2]
    simp only [List.take_succ_cons, itfBody, ih, List.append_assoc, List.getD_cons_succ]
theorem make_int (n : Nat) (h : n ≤ 1000000000) (w : World) : (Instr.makeSlice 40 (.int .i64 (n : Int)) (.int .i64 (n : Int))).run Tryz.prog w = .ok (.slice (some ⟨w.heap.size, 0, none⟩) n n) (w.alloc (.cells (nums .i64 (List.replicate n 0)).toArray 3)) := by
  obtain ⟨i, hi, hz, hs, hb⟩ := info_parts F.info3
  have := run_make_rowN (P := Tryz.prog) 40 3 i (.int .i64 0) Tryz.underlying40 hi hz .i64 .i64 n n (Nat.le_refl _) (by rw [hb]; omega) (by omega) w
  have e : madeCells (Value.int .i64 0).cells (n * 1) = (nums .i64 (List.replicate n 0)).toArray := by
    apply Array.toList_inj.1
    rw [Nat.mul_one]
    exact (toList_madeCells_one _ _).trans (by simp [nums])
  rw [this, hs, e]

def z10 : List Int := List.replicate 10 0
theorem make_10 (w : World) : (Instr.makeSlice 40 (.int .i64 10) (.int .i64 10)).run Tryz.prog w = .ok (.slice (some ⟨w.heap.size, 0, none⟩) 10 10) (w.alloc (.cells (nums .i64 z10).toArray 3)) := make_int 10 (by omega) w
set_option maxHeartbeats 2000000 in
set_option maxRecDepth 100000 in
theorem encItf (w : World) (mv : Value) (text : ByteArray) (ds : List Nat) (n : Nat) (hn : ds.length = 2 * n) (hn2 : n ≤ 40) (ht : IsDigits text ds) :
    Calls Tryz.prog 171 #[.agg #[], .string text, mv] w fun e w' => ∃ v, e = .returned (.tuple #[v, .nilIface]) ∧ Kd.R Kd.bool 4 w' w.heap.size (fun _ => True) v (itfCode ds) ∧ Below w.heap.size w w' := by
  have hsz : text.size = 2 * n := by rw [← data_length, ht.1]; simp [hn]
  have hsI : (text.size : Int) = 2 * (n : Int) := by omega
  have m2 : ((2 * (n : Int)) % 2 == 0) = true := by simp
  have HT := Aside0.mk ht
  have HN := Aside0.mk hn
  clear ht hn
  have hmk := make_bool (9 + 9 * (2 * n)) (by omega)
  have hmkn : ((9 + 9 * (2 * n) : Nat) : Int) = 9 + 9 * (2 * (n : Int)) := by omega
  rw [hmkn] at hmk
  have HSZ := Aside0.mk hsz
  clear hsz hmkn
  go_enter Tryz.func171, Tryz.ntmps171
  have h80 : decide ((80 : Int) < 2 * (n : Int)) = false := decide_eq_false (by omega)
  go_wp2_with fail
  refine (numeric _ text (by have := HSZ.out; omega) text.size (Nat.le_refl _) (digits_all HT.out) (fun h => absurd h (Nat.lt_irrefl _))).mono ?_
  rintro e w1 ⟨v, rfl, hv, hb1⟩
  obtain rfl : v = .nilIface := by unfold NumPost at hv; rw [if_pos rfl] at hv; exact hv
  have HB1 := Aside0.mk ((below_alloc (Below.refl _ w) _).trans (hb1.mono (by simp)))
  clear hv hb1
  go_wp2_with fail
  refine (pat173 _).mono ?_
  rintro e w2 ⟨A, c, rfl, hcc, hC, hb2⟩
  have hbk := (Blk.new w1 4 (bools (List.replicate (9 + 9 * (2 * n)) false)).toArray).below hb2 (by simp)
  have HB2 := Aside0.mk (HB1.out.trans ((below_alloc (Below.refl _ w1) _).mono HB1.out.size |>.trans (hb2.mono (by have := HB1.out.size; simp; omega))))
  have hgt : w.heap.size ≤ w1.heap.size := HB1.out.size
  have HBK := Aside0.mk hbk
  have HC := Aside0.mk hC
  clear hb2 hbk hC hmk
  go_wp2_with fail
  refine (appendPat w2 w1.heap.size (9 + 9 * (2 * n)) (List.replicate (9 + 9 * (2 * n)) false) [] A c [1, 1, 1, 1] true (by rw [put_nil]; exact HBK.out) (by simp) (by omega) (by omega) 4 rfl HC.out hcc (by simp) (by omega) (by simp [bars]; omega)).mono ?_
  rintro e w3 ⟨rfl, hx, hu⟩
  have hbw3 := HB2.out.trans (hu.below hgt HB2.out.size)
  have HX := Aside0.mk hx
  have HB3 := Aside0.mk hbw3
  clear hx hu hbw3 HC HBK
  go_wp2
  go_loopw [11, 12] (fun v u wr => ∃ (k j : Nat) (ys : List Bool), j ≤ 2 * n ∧ u = .int .i64 j ∧ v = .int .i64 (ys.length : Nat) ∧ Aside0 (j = 2 * k) ∧ Aside0 (ys = bars true [1, 1, 1, 1] ++ itfBody (ds.take j)) ∧ Aside0 (Blk wr w1.heap.size 4 (bools (put (List.replicate (9 + 9 * (2 * n)) false) ys)).toArray) ∧ Aside0 (Below w.heap.size w wr)) (fun _ u _ => 2 * n - (intOf u).toNat)
  case atStart => exact ⟨0, 0, bars true [1, 1, 1, 1], by omega, rfl, rfl, ⟨rfl⟩, ⟨by simp [itfBody]⟩, HX, HB3⟩
  case round =>
    obtain ⟨k, j, ys, hj, rfl, rfl, HK, HY, HX, HB⟩ := hrel
    clear HB3
    by_cases hlt : j < 2 * n
    · have hj1 : j < text.size := by have := HSZ.out; omega
      have hj2 : j + 1 < text.size := by have := HSZ.out; have := HK.out; omega
      obtain ⟨hda, ha, ha10⟩ := digits_get HT.out j hj1
      obtain ⟨hdb, hb, hb10⟩ := digits_get HT.out (j + 1) hj2
      obtain ⟨a, haa⟩ : ∃ a, ds[j] = a := ⟨_, rfl⟩
      obtain ⟨b, hbb⟩ : ∃ b, ds[j + 1] = b := ⟨_, rfl⟩
      rw [haa] at ha ha10
      rw [hbb] at hb hb10
      have HAA := Aside0.mk haa
      have HBB := Aside0.mk hbb
      clear haa hbb
      have hmk2 := make_10
      have hdlt : decide ((j : Int) < 2 * (n : Int)) = true := decide_eq_true (by omega)
      go_wp2
      clear hmk2
      obtain ⟨wi, hwi⟩ : ∃ wi, wr.alloc (.cells (nums .i64 z10).toArray 3) = wi := ⟨_, rfl⟩
      have hbwi : Below wr.heap.size wr wi := by rw [← hwi]; exact below_alloc (Below.refl _ _) _
      have hbe : Blk wi wr.heap.size 3 (nums .i64 z10).toArray := by rw [← hwi]; exact Blk.new _ _ _
      simp only [hwi]
      clear hwi
      have HBWI := Aside0.mk hbwi
      have HBE := Aside0.mk hbe
      clear hbwi hbe
      obtain ⟨wo, hwo⟩ : ∃ wo, wr = wo := ⟨_, rfl⟩
      rw [hwo] at HX HB HBWI HBE ⊢
      go_loopw [16] (fun v wr => ∃ (q : Nat) (es : List Int), q ≤ 5 ∧ v = .int .i64 q ∧ Aside0 (es = inter ((itfPat a).take q) ((itfPat b).take q)) ∧ Aside0 (Blk wr wo.heap.size 3 (nums .i64 (put z10 es)).toArray) ∧ Aside0 (Below wo.heap.size wo wr)) (fun v _ => 5 - (intOf v).toNat)
      case atStart => exact ⟨0, [], by omega, rfl, ⟨by simp [inter]⟩, by simpa [put_nil] using HBE, HBWI⟩
      case round =>
        obtain ⟨q, es, hq, rfl, HE, HEB, HBI⟩ := hrel
        by_cases hq5 : q < 5
        · go_wp2_with fail
          refine (pats174 _).mono ?_
          rintro e w4 ⟨A1, c1, rfl, hC1, hb4⟩
          obtain ⟨ad, ad2, c2, rfl, hp1, hc5, hp2⟩ := pat_cell hC1 a ha10 q hq5
          have hbe4 := HEB.out.below hb4 HEB.out.lt
          have hf4 := hbe4.frozen (2 * q)
          have hesl : es.length = 2 * q := by rw [HE.out]; exact inter_len a b ha10 hb10 q (by omega)
          have hx4 := hbe4.ucell ((2 * q : Nat) : Int) (by omega) (by rw [put_length _ _ (by rw [hesl]; simp [z10]; omega)]; simp [z10]; omega)
          rw [Int.toNat_natCast] at hx4
          have HESL := Aside0.mk hesl
          have HBE4 := Aside0.mk hbe4
          have HB4 := Aside0.mk (HBI.out.trans (hb4.mono HBI.out.size))
          clear hC1 hbe4 hb4 hesl
          go_wp2_with fail
          refine (pats174 (w4.setCell ⟨wo.heap.size, 2 * q, none⟩ (.int .i64 (rd (itfPat a) q)))).mono ?_
          rintro e w5 ⟨A5, c5, rfl, hC5, hb5⟩
          have hbe5 := HBE4.out.uset (2 * q) (rd (itfPat a) q)
          have e5 : (put z10 es).set (2 * q) (rd (itfPat a) q) = put z10 (es ++ [rd (itfPat a) q]) := by rw [← HESL.out]; exact put_set _ _ _ (by rw [HESL.out]; simp [z10]; omega)
          rw [e5] at hbe5
          have hes5 : (es ++ [rd (itfPat a) q]).length = 2 * q + 1 := by rw [List.length_append, HESL.out]; rfl
          clear e5 hp1 hp2 hf4 hx4
          obtain ⟨ad5, ad6, c6, rfl, hp1, hc6, hp2⟩ := pat_cell hC5 b hb10 q hq5
          have hb55 : Below wo.heap.size wo w5 := (HB4.out.trans ((Turn.set w4 wo.heap.size _ _).below (Nat.le_refl _))).trans (hb5.mono (by have := HB4.out.size; simpa using this))
          have hbe6 := hbe5.below hb5 hbe5.lt
          have hf6 := hbe6.frozen (2 * q + 1)
          have hx6 := hbe6.ucell ((2 * q + 1 : Nat) : Int) (by omega) (by rw [put_length _ _ (by rw [hes5]; simp [z10]; omega)]; simp [z10]; omega)
          rw [Int.toNat_natCast] at hx6
          have HES5 := Aside0.mk hes5
          have HBE6 := Aside0.mk hbe6
          have HB55 := Aside0.mk hb55
          clear hbe5 hbe6 hb5 hb55 hes5 hC5
          go_wp2
          go_roundw
          case rel => exact ⟨q + 1, es ++ [rd (itfPat a) q] ++ [rd (itfPat b) q], by omega, by go_num, ⟨by rw [HE.out]; exact inter_step a b ha10 hb10 q hq5⟩, ⟨by
            have h := HBE6.out.uset (2 * q + 1) (rd (itfPat b) q)
            have e6 := put_set z10 (es ++ [rd (itfPat a) q]) (rd (itfPat b) q) (by rw [HES5.out]; simp [z10]; omega)
            rw [HES5.out] at e6
            rw [e6] at h
            exact h⟩, ⟨HB55.out.trans ((Turn.set w5 wo.heap.size _ _).below (Nat.le_refl _))⟩⟩
          case measure => simp [intOf]; omega
        · have hq5' : q = 5 := by omega
          subst hq5'
          have hel : es.length = 10 := by rw [HE.out]; exact inter_len a b ha10 hb10 5 (by omega)
          have hez : es = inter (itfPat a) (itfPat b) := by rw [HE.out, pat_take a ha10, pat_take b hb10]
          have hput : put z10 es = es := put_all _ _ (by rw [hel]; simp [z10])
          have hpe := HEB.out
          rw [hput, hez] at hpe
          have hil : (inter (itfPat a) (itfPat b)).length = 10 := by rw [← hez, hel]
          have hcc := C_nums hpe (by rw [hil]; omega)
          have hbp := inter_pos a b ha10 hb10
          have hbl := inter_bars a b ha10 hb10
          have hxw := HX.out.below HBI.out HX.out.lt
          have hyl : ys.length = 4 + 9 * j := by rw [HY.out, List.length_append, itfBody_length _ (take_lt HT.out j) k (by rw [List.length_take]; have := HN.out; have := HK.out; omega)]; have := HK.out; simp [bars]; omega
          rw [hil] at hcc
          have HHCC := Aside0.mk hcc
          have HHXW := Aside0.mk hxw
          have HHYL := Aside0.mk hyl
          have HHIL := Aside0.mk hil
          have HHBL := Aside0.mk hbl
          clear hcc hxw hyl hil hbl hpe hput hez hel
          go_wp2_with fail
          refine (appendPat wr w1.heap.size (9 + 9 * (2 * n)) (List.replicate (9 + 9 * (2 * n)) false) ys _ _ (inter (itfPat a) (itfPat b)) true HHXW.out (by simp) (by omega) (by omega) 10 HHIL.out HHCC.out (Nat.le_refl _) hbp (by omega) (by rw [HHBL.out, HHYL.out]; have := HK.out; omega)).mono ?_
          rintro e w7 ⟨rfl, hx7, hu7⟩
          have HX7 := Aside0.mk hx7
          have HB7 := Aside0.mk ((HB.out.trans (HBI.out.mono HB.out.size)).trans (hu7.below hgt (HB.out.trans (HBI.out.mono HB.out.size)).size))
          clear hx7 hu7 hbp
          have hyb : ys.length ≤ 4 + 9 * j := by have := HHYL.out; omega
          rw [HHBL.out]
          go_wp2
          go_roundw
          case rel => exact ⟨k + 1, j + 2, ys ++ bars true (inter (itfPat a) (itfPat b)), by have := HK.out; omega, by go_num, by rw [List.length_append, HHBL.out]; go_num, ⟨by have := HK.out; omega⟩, ⟨by
            have e := itfBody_snoc k ds (by have := HN.out; have := HK.out; omega)
            have hk := HK.out
            rw [← hk] at e
            have e1 : ds.getD j 0 = a := by rw [← HAA.out, List.getD_eq_getElem?_getD, List.getElem?_eq_getElem hda]; rfl
            have e2 : ds.getD (j + 1) 0 = b := by rw [← HBB.out, List.getD_eq_getElem?_getD, List.getElem?_eq_getElem hdb]; rfl
            rw [e, e1, e2, HY.out]
            simp only [List.append_assoc]⟩, HX7, HB7⟩
          case measure => simp [intOf]; have := HK.out; omega
    · have hjn : j = 2 * n := by omega
      subst hjn
      have hyl : ys.length = 4 + 9 * (2 * n) := by rw [HY.out, List.length_append, itfBody_length _ (take_lt HT.out _) n (by rw [List.length_take]; have := HN.out; omega)]; simp [bars]; omega
      have HHYL := Aside0.mk hyl
      clear hyl
      go_wp2_with fail
      refine (pat175 _).mono ?_
      rintro e w5 ⟨A5, c5, rfl, hc5, hC5, hb5⟩
      have hxb := HX.out.below hb5 HX.out.lt
      have HB5 := HB.out.trans (hb5.mono HB.out.size)
      have HHB5 := Aside0.mk HB5
      have HXB := Aside0.mk hxb
      have HHC5 := Aside0.mk hC5
      clear HB5 hxb hC5 hb5
      go_wp2_with fail
      refine (appendPat w5 w1.heap.size (9 + 9 * (2 * n)) (List.replicate (9 + 9 * (2 * n)) false) ys _ _ [3, 1, 1] true HXB.out (by simp) (by omega) (by omega) 3 rfl HHC5.out hc5 (by simp) (by omega) (by have := HHYL.out; simp [bars]; omega)).mono ?_
      rintro e w7 ⟨rfl, hx7, hu7⟩
      have HX7 := Aside0.mk hx7
      have HB7 := Aside0.mk (HHB5.out.trans (hu7.below hgt HHB5.out.size))
      clear hx7 hu7
      go_wp2
      go_ret2
      have hall : ys ++ bars true [3, 1, 1] = itfCode ds := by rw [HY.out, List.take_of_length_le (by have := HN.out; omega)]; rfl
      have hlen : (itfCode ds).length = 9 + 9 * (2 * n) := by rw [← hall, List.length_append, HHYL.out]; simp [bars]; omega
      refine ⟨_, rfl, ?_, HB7.out⟩
      have hx := HX7.out
      rw [hall, put_all _ _ (by rw [hlen]; simp)] at hx
      exact Kd.R_mono (R_of_blk hx hlen (by omega) hgt) (fun _ _ => trivial)
end Go.Proofs.YthkddnmomjcdaaaGreat.B
