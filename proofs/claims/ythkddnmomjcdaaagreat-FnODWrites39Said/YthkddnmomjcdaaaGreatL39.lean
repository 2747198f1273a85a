import Derived.Test.YthkddnmomjcdaaaGreatK
import Derived.Laws.Runes
namespace Go.Proofs.YthkddnmomjcdaaaGreat.B
open Go.RowKit Go.Proofs.YthkddnmomjcdaaaGreatW.PrintWords Go.Proofs.YthkddnmomjcdaaaGreatW.PrintLast Go.Proofs.YthkddnmomjcdaaaGreatW.PrintMore
set_option linter.unusedVariables false
set_option linter.unusedSimpArgs false

/-! ### Code 39's encoder -/
def sg39 : ByteArray := ⟨#[48, 49, 50, 51, 52, 53, 54, 55, 56, 57, 65, 66, 67, 68, 69, 70, 71, 72, 73, 74, 75, 76, 77, 78, 79, 80, 81, 82, 83, 84, 85, 86, 87, 88, 89, 90, 45, 46, 32, 36, 47, 43, 37]⟩
def enc39 : List Int := [52, 289, 97, 352, 49, 304, 112, 37, 292, 100, 265, 73, 328, 25, 280, 88, 13, 268, 76, 28, 259, 67, 322, 19, 274, 82, 7, 262, 70, 22, 385, 193, 448, 145, 400, 208, 133, 388, 196, 168, 162, 138, 42]
def chr39 (n : Nat) : List Bool := bars true (w9 (enc39.getD n 0)) ++ [false]
def star39 : List Bool := bars true (w9 148)
def body39 (ns : List Nat) : List Bool := ns.flatMap chr39
def code39 (ns : List Nat) : List Bool := star39 ++ [false] ++ body39 ns ++ star39
theorem chr39_length (n : Nat) (h : n < 43) : (chr39 n).length = 13 := by
  have : ∀ n : Fin 43, (chr39 n).length = 13 := by decide +kernel
  exact this ⟨n, h⟩
theorem star39_length : star39.length = 12 := by decide +kernel
theorem body39_length : ∀ (ns : List Nat), (∀ n ∈ ns, n < 43) → (body39 ns).length = 13 * ns.length
  | [], _ => rfl
  | n :: r, h => by
    have ih := body39_length r (fun d hd => h d (by simp [hd]))
    unfold body39 at ih ⊢
    rw [List.flatMap_cons, List.length_append, ih, chr39_length n (h n (by simp)), List.length_cons]
    omega
/-- A text of Code 39's characters. -/
def Is39 (t : ByteArray) (ns : List Nat) : Prop := t.data.toList = ns.map (fun n => sg39.data.toList.getD n 0) ∧ ∀ n ∈ ns, n < 43
theorem is39_get {t : ByteArray} {ns : List Nat} (h : Is39 t ns) (i : Nat) (hi : i < t.size) : ∃ n, n < 43 ∧ ns.getD i 0 = n ∧ i < ns.length ∧ t[i]'hi = sg39.data.toList.getD n 0 := by
  have hl : t.data.toList.length = ns.length := by rw [h.1, List.length_map]
  have hd : i < ns.length := by rw [← hl, data_length]; exact hi
  refine ⟨ns[i], h.2 _ (List.getElem_mem hd), by rw [List.getD_eq_getElem?_getD, List.getElem?_eq_getElem hd]; rfl, hd, ?_⟩
  have e : t[i]'hi = t.data.toList[i]'(by rw [data_length]; exact hi) := rfl
  rw [e]
  obtain ⟨h1, h2⟩ := h
  simp only [h1, List.getElem_map]
theorem sg39_at (w : World) (n : Nat) (hn : n < 43) : Calls Tryz.prog 142 #[.string sg39, .string ⟨#[sg39.data.toList.getD n 0]⟩] w fun e w' => e = .returned (.int .i64 n) ∧ Below w.heap.size w w' := by
  refine zzAt w sg39 _ (by decide) n n (by have : sg39.size = 43 := rfl; omega) ?_ ?_
  · have : ∀ n : Fin 43, ∀ i : Fin 43, i.val < n.val → sg39.data.toList.getD i 0 ≠ sg39.data.toList.getD n 0 := by decide +kernel
    exact fun i hi => this ⟨n, hn⟩ ⟨i, by omega⟩ hi
  · rw [if_pos (by have : sg39.size = 43 := rfl; omega)]
    exact ⟨rfl, rfl⟩
/-- string(b) of a byte below 128. -/
theorem conv_byte (b : UInt8) (h : b.toNat < 128) (w : World) : (Go.convert 5 9 (.int .u8 (b.toNat : Int))).run Tryz.prog w = .ok (.string ⟨#[b]⟩) w := by
  rw [run_convert_int_string w 5 9 .u8 _ (by kernel_rfl) Tryz.underlying9]
  have hv : Utf8.valid (b.toNat : Int) = true := by unfold Utf8.valid; simp; omega
  have : Utf8.encode (b.toNat : Int) = ⟨#[b]⟩ := by
    unfold Utf8.encode
    rw [if_pos hv]
    simp only [Int.toNat_natCast]
    rw [if_pos h, UInt8.ofNat_toNat]
  rw [this]
theorem sg39_lt (n : Nat) (hn : n < 43) : (sg39.data.toList.getD n 0).toNat < 128 := by
  have : ∀ n : Fin 43, (sg39.data.toList.getD n 0).toNat < 128 := by decide +kernel
  exact this ⟨n, hn⟩

theorem C_9 {w : World} {g : Nat} {a : Int} (h : Blk w g 3 (nums .i64 (w9 a)).toArray) : Kd.C (Kd.int .i64) w (some ⟨g, 0, none⟩) 9 (w9 a) := by
  have := C_nums h (by rw [w9_length]; omega)
  rwa [w9_length] at this
set_option maxHeartbeats 4000000 in
set_option maxRecDepth 100000 in
theorem enc39_calls (w : World) (mv : Value) (text : ByteArray) (ns : List Nat) (n : Nat) (hn : ns.length = n) (hn2 : n ≤ 80) (ht : Is39 text ns) :
    Calls Tryz.prog 140 #[.agg #[], .string text, mv] w fun e w' => ∃ v, e = .returned (.tuple #[v, .nilIface]) ∧ Kd.R Kd.bool 4 w' w.heap.size (fun _ => True) v (code39 ns) ∧ Below w.heap.size w w' := by
  have hsz : text.size = n := by rw [← data_length, ht.1]; simp [hn]
  have hsI : (text.size : Int) = (n : Int) := by omega
  have h80 : decide ((80 : Int) < (n : Int)) = false := decide_eq_false (by omega)
  have HT := Aside0.mk ht
  have HN := Aside0.mk hn
  have hmk9 := make_9
  have hmk := make_bool (25 + 13 * n) (by omega)
  have hmkn : ((25 + 13 * n : Nat) : Int) = 25 + 13 * (n : Int) := by omega
  rw [hmkn] at hmk
  clear hmkn
  have HSZ := Aside0.mk hsz
  clear ht hn hsz
  go_enter Tryz.func140, Tryz.ntmps140
  go_wp2_with fail
  go_loopw [1, 8, 9] (fun tv nv v wr => ∃ j : Nat, j ≤ n ∧ tv = .string text ∧ nv = .int .i64 n ∧ v = .int .i64 j ∧ Aside0 (Below w.heap.size w wr)) (fun _ _ v _ => n - (intOf v).toNat)
  case atStart => exact ⟨0, by omega, rfl, rfl, rfl, ⟨below_alloc (Below.refl _ _) _⟩⟩
  case round =>
    obtain ⟨j, hj, rfl, rfl, rfl, HB⟩ := hrel
    by_cases hlt : j < n
    · have hj1 : j < text.size := by have := HSZ.out; omega
      obtain ⟨c, hc, hcn, hcl, hct⟩ := is39_get HT.out j hj1
      have hcv := conv_byte _ (sg39_lt c hc)
      obtain ⟨cb, hcb⟩ : ∃ cb, sg39.data.toList.getD c 0 = cb := ⟨_, rfl⟩
      rw [hcb] at hct hcv
      have hz := sg39_at wr c hc
      rw [hcb] at hz
      have HZ := Aside0.mk hz
      clear hz hcb hcn hcl
      go_wp2_with fail
      refine (HZ.out).mono ?_
      rintro e w' ⟨rfl, hb⟩
      have HB' := Aside0.mk (HB.out.trans (hb.mono HB.out.size))
      clear hb
      go_wp2
      go_roundw
      case rel => exact ⟨j + 1, by omega, rfl, rfl, by go_num, HB'⟩
      case measure => simp [intOf]; omega
    · have hjn : j = n := by omega
      subst hjn
      go_wp2_with fail
      obtain ⟨w1, hw1⟩ : ∃ w1, (wr.alloc (.cells (nums .i64 z9).toArray 3)).alloc (.cells (bools (List.replicate (25 + 13 * j) false)).toArray 4) = w1 := ⟨_, rfl⟩
      have hgw : Blk w1 wr.heap.size 3 (nums .i64 z9).toArray := by rw [← hw1]; exact Blk.alloc (Blk.new _ _ _) _
      have hgt : Blk w1 (wr.heap.size + 1) 4 (bools (put (List.replicate (25 + 13 * j) false) [])).toArray := by
        rw [← hw1, put_nil]
        have := Blk.new (wr.alloc (.cells (nums .i64 z9).toArray 3)) 4 (bools (List.replicate (25 + 13 * j) false)).toArray
        simpa using this
      have hb1 : Below wr.heap.size wr w1 := by rw [← hw1]; exact below_alloc (below_alloc (Below.refl _ _) _) _
      have hs1 : w1.heap.size = wr.heap.size + 2 := by rw [← hw1]; simp
      obtain ⟨gw, hgwe⟩ : ∃ gw, wr.heap.size = gw := ⟨_, rfl⟩
      rw [hgwe] at hgw hgt hs1
      have HGW := Aside0.mk hgw
      have HGT := Aside0.mk hgt
      have HB1 := Aside0.mk (HB.out.trans (hb1.mono HB.out.size))
      have hge : w.heap.size ≤ gw := by rw [← hgwe]; exact HB.out.size
      have HS1 := Aside0.mk hs1
      rw [hw1, hgwe]
      clear hw1 hgw hgt hb1 hgwe hmk hmk9 hs1
      refine (toInts w1 gw 148 _ HGW.out (by rfl)).mono ?_
      rintro e w2 ⟨rfl, hx2, hu2⟩
      have HGW2 := Aside0.mk hx2
      have HGT2 := Aside0.mk (hu2.blk HGT.out (by omega))
      have HB2 := Aside0.mk (HB1.out.trans (hu2.below hge HB1.out.size))
      have HS2 := Aside0.mk hu2.size
      clear hx2 hu2 HGW HGT
      go_wp2_with fail
      refine (appendPat' w2 (gw + 1) (25 + 13 * j) (List.replicate (25 + 13 * j) false) [] _ _ (w9 148) true 0 12 rfl (by have := star39_length; unfold star39 at this; rw [this]; rfl) HGT2.out (by simp) (by omega) (by omega) 9 (w9_length _) (C_9 HGW2.out) (by omega) (w9_pos _) (by omega) (by omega)).mono ?_
      rintro e w3 ⟨rfl, hx3, hu3⟩
      have HGT3 := Aside0.mk hx3
      have HGW3 := Aside0.mk (hu3.blk HGW2.out (by omega))
      have HB3 := Aside0.mk (HB2.out.trans (hu3.below (by omega) HB2.out.size))
      have HS3 := Aside0.mk (Nat.le_trans HS2.out hu3.size)
      clear hx3 hu3 HGT2 HGW2 HB2
      go_wp2_with fail
      have hbn : Below w3.heap.size w3 (w3.alloc (.cells #[.int .i64 1] 3)) := below_alloc (Below.refl _ _) _
      have hgn : Blk (w3.alloc (.cells #[.int .i64 1] 3)) w3.heap.size 3 (nums .i64 [1]).toArray := Blk.new _ _ _
      obtain ⟨gn, hgne⟩ : ∃ gn, w3.heap.size = gn := ⟨_, rfl⟩
      obtain ⟨w4, hw4⟩ : ∃ w4, w3.alloc (.cells #[.int .i64 1] 3) = w4 := ⟨_, rfl⟩
      have hgt4 := HGT3.out.below hbn HGT3.out.lt
      have hgw4 := HGW3.out.below hbn HGW3.out.lt
      have hb4 := HB3.out.trans (hbn.mono HB3.out.size)
      rw [hw4] at hgn hgt4 hgw4 hb4 ⊢
      rw [hgne] at hgn ⊢
      have hng : gw + 1 < gn := by have := HS3.out; have := HS1.out; omega
      clear hbn hw4 hgne
      have hslt : ([] ++ bars true (w9 148)).length = 12 := by have := star39_length; unfold star39 at this; rw [List.nil_append, this]
      have HGN4 := Aside0.mk hgn
      have HGT4 := Aside0.mk hgt4
      have HGW4 := Aside0.mk hgw4
      have HB4 := Aside0.mk hb4
      have HSLT := Aside0.mk hslt
      clear hgn hgt4 hgw4 hb4 HGT3 HGW3 HB3 hslt
      refine (appendPat' w4 (gw + 1) (25 + 13 * j) (List.replicate (25 + 13 * j) false) ([] ++ bars true (w9 148)) _ _ [1] false 12 1 (by rw [HSLT.out]; rfl) rfl HGT4.out (by simp) (by omega) (by omega) 1 rfl (C_nums HGN4.out (by decide)) (by omega) (by decide) (by omega) (by omega)).mono ?_
      rintro e w5 ⟨rfl, hx5, hu5⟩
      have HGT5 := Aside0.mk hx5
      have HGW5 := Aside0.mk (hu5.blk HGW4.out (by omega))
      have HGN5 := Aside0.mk (hu5.blk HGN4.out (by omega))
      have HB5 := Aside0.mk (HB4.out.trans (hu5.below (by omega) HB4.out.size))
      clear hx5 hu5 HGT4 HGW4 HGN4 HB4
      have hys : [] ++ bars true (w9 148) ++ bars false [1] = star39 ++ [false] := rfl
      rw [hys] at HGT5
      clear hys
      go_wp2
      clear HSLT
      go_loopw [15, 17] (fun pv v wi => ∃ (k : Nat) (p a' : Int), k ≤ j ∧ v = .int .i64 k ∧ pv = .int .i64 p ∧ 0 ≤ p ∧ p ≤ 13 + 13 * (k : Int) ∧ Aside0 (p = 13 + 13 * (k : Int)) ∧ Aside0 (Blk wi gw 3 (nums .i64 (w9 a')).toArray) ∧ Aside0 (Blk wi (gw + 1) 4 (bools (put (List.replicate (25 + 13 * j) false) (star39 ++ [false] ++ body39 (ns.take k)))).toArray) ∧ Aside0 (Blk wi gn 3 (nums .i64 [1]).toArray) ∧ Aside0 (Below w.heap.size w wi)) (fun _ v _ => j - (intOf v).toNat)
      case atStart => exact ⟨0, 13, 148, by omega, rfl, rfl, by omega, by omega, ⟨rfl⟩, HGW5, ⟨by have := HGT5.out; simpa [body39] using this⟩, HGN5, HB5⟩
      case round =>
        obtain ⟨k, p, a', hk, rfl, rfl, hp0, hp1, HP, HW, HG, HNN, HBB⟩ := hrel
        clear HGW5 HGT5 HGN5 HB5
        have hyl : (star39 ++ [false] ++ body39 (ns.take k)).length = 13 + 13 * k := by
          rw [List.length_append, List.length_append, star39_length, body39_length _ (fun d hd => HT.out.2 d (List.mem_of_mem_take hd)), List.length_take, HN.out]
          simp; omega
        have HYL := Aside0.mk hyl
        clear hyl
        by_cases hlk : k < j
        · have hk1 : k < text.size := by have := HSZ.out; omega
          obtain ⟨c, hc, hcn, hcl, hct⟩ := is39_get HT.out k hk1
          have hcv := conv_byte _ (sg39_lt c hc)
          obtain ⟨cb, hcb⟩ : ∃ cb, sg39.data.toList.getD c 0 = cb := ⟨_, rfl⟩
          have HCN := Aside0.mk hcn
          rw [hcb] at hct hcv
          have HCB := Aside0.mk hcb
          clear hcb hcn hcl
          go_wp2_with fail
          have hz := sg39_at wr c hc
          rw [HCB.out] at hz
          refine hz.mono ?_
          rintro e w6 ⟨rfl, hb6⟩
          clear hz
          have HW6 := Aside0.mk (HW.out.below hb6 HW.out.lt)
          have HG6 := Aside0.mk (HG.out.below hb6 HG.out.lt)
          have HN6 := Aside0.mk (HNN.out.below hb6 HNN.out.lt)
          have HB6 := Aside0.mk (HBB.out.trans (hb6.mono HBB.out.size))
          clear hb6 HW HG HNN HBB
          go_wp2_with fail
          refine (F.oned_code39CharacterEncodings.calls enc39 _ rfl).mono ?_
          rintro e w7 ⟨v7, rfl, hr7, hb7⟩
          have HW7 := Aside0.mk (HW6.out.below hb7 HW6.out.lt)
          have HG7 := Aside0.mk (HG6.out.below hb7 HG6.out.lt)
          have HN7 := Aside0.mk (HN6.out.below hb7 HN6.out.lt)
          have HB7 := Aside0.mk (HB6.out.trans (hb7.mono HB6.out.size))
          clear hb7 HW6 HG6 HN6 HB6
          obtain ⟨ad, c7, rfl, hc7, hcell⟩ := tab_cell hr7 c (by have : enc39.length = 43 := rfl; omega)
          rw [show enc39.length = 43 from rfl]
          obtain ⟨av, hav⟩ : ∃ av, enc39.getD c 0 = av := ⟨_, rfl⟩
          rw [hav] at hcell
          have HAV := Aside0.mk hav
          clear hr7 hav hc7
          go_wp2_with fail
          refine (toInts w7 gw av _ HW7.out (w9_length _)).mono ?_
          rintro e w8 ⟨rfl, hx8, hu8⟩
          have HW8 := Aside0.mk hx8
          have HG8 := Aside0.mk (hu8.blk HG7.out (by omega))
          have HN8 := Aside0.mk (hu8.blk HN7.out (by omega))
          have HB8 := Aside0.mk (HB7.out.trans (hu8.below (by omega) HB7.out.size))
          clear hx8 hu8 HW7 HG7 HN7 HB7 hcell
          have hcl13 := chr39_length c hc
          unfold chr39 at hcl13
          rw [HAV.out] at hcl13
          have hb12 : (bars true (w9 av)).length = 12 := by simpa using hcl13
          have HB12 := Aside0.mk hb12
          clear hcl13 hb12
          go_wp2_with fail
          refine (appendPat' w8 (gw + 1) (25 + 13 * j) (List.replicate (25 + 13 * j) false) (star39 ++ [false] ++ body39 (ns.take k)) _ _ (w9 av) true p 12 (by rw [HYL.out, HP.out]; omega) (by rw [HB12.out]; rfl) HG8.out (by simp) (by omega) (by omega) 9 (w9_length _) (C_9 HW8.out) (by omega) (w9_pos _) (by omega) (by omega)).mono ?_
          rintro e w9' ⟨rfl, hx9, hu9⟩
          have HG9 := Aside0.mk hx9
          have HW9 := Aside0.mk (hu9.blk HW8.out (by omega))
          have HN9 := Aside0.mk (hu9.blk HN8.out (by omega))
          have HB9 := Aside0.mk (HB8.out.trans (hu9.below (by omega) HB8.out.size))
          clear hx9 hu9 HW8 HG8 HN8 HB8
          go_wp2_with fail
          refine (appendPat' w9' (gw + 1) (25 + 13 * j) (List.replicate (25 + 13 * j) false) (star39 ++ [false] ++ body39 (ns.take k) ++ bars true (w9 av)) _ _ [1] false (p + 12) 1 (by rw [List.length_append, HYL.out, HB12.out, HP.out]; omega) rfl HG9.out (by simp) (by omega) (by omega) 1 rfl (C_nums HN9.out (by decide)) (by omega) (by decide) (by omega) (by omega)).mono ?_
          rintro e w10 ⟨rfl, hx10, hu10⟩
          have HG10 := Aside0.mk hx10
          have HW10 := Aside0.mk (hu10.blk HW9.out (by omega))
          have HN10 := Aside0.mk (hu10.blk HN9.out (by omega))
          have HB10 := Aside0.mk (HB9.out.trans (hu10.below (by omega) HB9.out.size))
          clear hx10 hu10 HW9 HG9 HN9 HB9
          go_wp2
          go_roundw
          case rel => exact ⟨k + 1, p + 12 + 1, av, by omega, by go_num, rfl, by omega, by omega, ⟨by rw [HP.out]; omega⟩, HW10, ⟨by
            have h := HG10.out
            have e : body39 (ns.take (k + 1)) = body39 (ns.take k) ++ chr39 c := by
              have hkl : k < ns.length := by rw [HN.out]; exact hlk
              unfold body39
              rw [List.take_succ_eq_append_getElem hkl, List.flatMap_append]
              have : ns[k] = c := by rw [← HCN.out, List.getD_eq_getElem?_getD, List.getElem?_eq_getElem hkl]; rfl
              rw [this]
              simp
            rw [e]
            unfold chr39
            rw [HAV.out]
            simp only [← List.append_assoc] at h ⊢
            exact h⟩, HN10, HB10⟩
          case measure => simp [intOf]; omega
        · have hkj : k = j := by omega
          subst hkj
          go_wp2_with fail
          refine (toInts _ gw 148 _ HW.out (w9_length _)).mono ?_
          rintro e w8 ⟨rfl, hx8, hu8⟩
          have HW8 := Aside0.mk hx8
          have HG8 := Aside0.mk (hu8.blk HG.out (by omega))
          have HB8 := Aside0.mk (HBB.out.trans (hu8.below (by omega) HBB.out.size))
          clear hx8 hu8 HW HG HNN HBB
          have hslt : (bars true (w9 148)).length = 12 := star39_length
          have HSLT := Aside0.mk hslt
          clear hslt
          go_wp2_with fail
          refine (appendPat' w8 (gw + 1) (25 + 13 * k) (List.replicate (25 + 13 * k) false) (star39 ++ [false] ++ body39 (ns.take k)) _ _ (w9 148) true p 12 (by rw [HYL.out, HP.out]; omega) (by rw [HSLT.out]; rfl) HG8.out (by simp) (by omega) (by omega) 9 (w9_length _) (C_9 HW8.out) (by omega) (w9_pos _) (by omega) (by omega)).mono ?_
          rintro e w9' ⟨rfl, hx9, hu9⟩
          have HG9 := Aside0.mk hx9
          have HB9 := Aside0.mk (HB8.out.trans (hu9.below (by omega) HB8.out.size))
          clear hx9 hu9 HW8 HG8 HB8
          go_wp2
          go_ret2
          have hlen : (code39 ns).length = 25 + 13 * k := by
            unfold code39
            rw [List.length_append, List.length_append, List.length_append, star39_length, body39_length _ HT.out.2, HN.out]
            simp; omega
          refine ⟨_, rfl, ?_, HB9.out⟩
          have hx := HG9.out
          rw [List.take_of_length_le (by rw [HN.out]; exact Nat.le_refl _)] at hx
          have hx' : Blk w9' (gw + 1) 4 (bools (put (List.replicate (25 + 13 * k) false) (code39 ns))).toArray := hx
          rw [put_all _ _ (by rw [hlen]; simp)] at hx'
          exact Kd.R_mono (R_of_blk hx' hlen (by omega) (by omega)) (fun _ _ => trivial)
end Go.Proofs.YthkddnmomjcdaaaGreat.B
