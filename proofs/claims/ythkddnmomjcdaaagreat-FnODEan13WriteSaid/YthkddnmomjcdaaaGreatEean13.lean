import Derived.Test.YthkddnmomjcdaaaGreatV
namespace Go.Proofs.YthkddnmomjcdaaaGreat.B
open Go.RowKit Go.Proofs.YthkddnmomjcdaaaGreatW.PrintWords Go.Proofs.YthkddnmomjcdaaaGreatW.PrintLast Go.Proofs.YthkddnmomjcdaaaGreatW.PrintMore
set_option linter.unusedVariables false
set_option linter.unusedSimpArgs false

theorem fmts_ean13 (w : World) :
    Calls Tryz.prog 168 #[.agg #[]] w fun e w' => e = .returned (.slice (some ⟨w.heap.size + 1, 0, none⟩) 1 1) ∧ w' = (w.alloc (.cells #[] 93)).alloc (.cells (nums .i64 [7]).toArray 49) := by
  go_enter Tryz.func168, Tryz.ntmps168
  go_wp2
  go_ret
  exact ⟨rfl, rfl⟩
theorem new_ean13 (w : World) : Calls Tryz.prog 53 #[] w fun e w' => e = .returned (.iface 85 (.pointer (some ⟨w.heap.size, 0, none⟩))) ∧ w' = w.alloc (.cells #[.iface 93 (.agg #[]), .int .i64 9] 106) := by
  go_enter Tryz.func53, Tryz.ntmps53
  go_wp2_with (go_at_call 71; refine (newUpc _ _ _).mono ?_; rintro e w' ⟨rfl, rfl⟩)
  go_ret
  exact ⟨rfl, rfl⟩
theorem writer_ean13 (w : World) : Calls Tryz.prog 29 #[.int .i64 7] w fun e w' => e = .returned (.iface 85 (.pointer (some ⟨w.heap.size, 0, none⟩))) ∧ w' = w.alloc (.cells #[.iface 93 (.agg #[]), .int .i64 9] 106) := by
  go_enter Tryz.func29, Tryz.ntmps29
  go_wp2_with (go_at_call 53; refine (new_ean13 _).mono ?_; rintro e w' ⟨rfl, rfl⟩)
  go_ret
  exact ⟨rfl, rfl⟩
theorem meth1_ean13 (W : World) : Sem.run Tryz.prog (method 315 93 (.agg #[]) "given.example/pub-quietzone/pub/gozxing/oned.getSupportedWriteFormats") W = .ok (168, .agg #[]) W := by kernel_rfl
theorem meth2_ean13 (W : World) : Sem.run Tryz.prog (method 315 93 (.agg #[]) "given.example/pub-quietzone/pub/gozxing/oned.encodeWithHints") W = .ok (167, .agg #[]) W := by kernel_rfl

set_option maxHeartbeats 2000000 in
set_option maxRecDepth 100000 in
theorem encode_ean13_ok (w : World) (g gm : Nat) (text : ByteArray) (wd mg : Int) (code : List Bool) (full out many left rs : Int) (R : Nat)
    (hg : Blk w g 106 #[.iface 93 (.agg #[]), .int .i64 9]) (hm : w.heap[gm]? = some (.map #[⟨.int .i64 5, .iface 3 (.int .i64 mg), 0⟩] 1)) (h0 : 0 < text.size) (h1 : 0 ≤ wd)
    (q0 : 0 < (code.length : Int) + mg) (hm0 : 0 ≤ mg) (hm1 : mg ≤ 1000) (hw1 : wd ≤ 100000) (hlc : code.length ≤ 100000)
    (hfull : (code.length : Int) + mg = full) (hout : (if full < wd then wd else full) = out) (hmany : out / full = many) (hleft : (out - code.length * many) / 2 = left) (hrs : (out + 31) / 32 = rs) (hR : rs = (R : Int))
    (henc : ∀ W : World, Calls Tryz.prog 167 #[.agg #[], .string text, .map (some gm)] W fun e w' => ∃ v, e = .returned (.tuple #[v, .nilIface]) ∧ Kd.R Kd.bool 4 w' W.heap.size (fun _ => True) v code ∧ Below W.heap.size W w') :
    Calls Tryz.prog 94 #[.pointer (some ⟨g, 0, none⟩), .string text, .int .i64 7, .int .i64 wd, .int .i64 1, .map (some gm)] w fun e w' => ∃ b, w.heap.size ≤ b ∧ e = .returned (.tuple #[.pointer (some ⟨b + 1, 0, none⟩), .nilIface]) ∧ Blk w' b 78 (nums .u32 (paint code left many (List.replicate R 0) code.length)).toArray ∧ Blk w' (b + 1) 75 #[.int .i64 out, .int .i64 1, .int .i64 rs, .slice (some ⟨b, 0, none⟩) R R] ∧ Below w.heap.size w w' := by
  have c0 : w.cell? ⟨g, 0, none⟩ = some (.iface 93 (.agg #[])) := hg.cell 0
  have hlen : ((text.size : Int) == 0) = false := beq_eq_false_iff_ne.mpr (by omega)
  have hwd : decide (wd < 0) = false := decide_eq_false (by omega)
  have m1 := meth1_ean13
  have HG := Aside0.mk hg
  have HM := Aside0.mk hm
  have HE := Aside0.mk henc
  clear hg hm henc
  have HH := Aside0.mk (⟨hfull, hout, hmany, hleft, hrs, hR⟩ : _ ∧ _ ∧ _ ∧ _ ∧ _ ∧ _)
  clear hfull hout hmany hleft hrs hR
  go_enter Tryz.func94, Tryz.ntmps94
  go_wp2_with fail
  refine (fmts_ean13 w).mono ?_
  rintro e w1 ⟨rfl, hw1⟩
  have hb1 : Below w.heap.size w w1 := by rw [hw1]; exact below_alloc (below_alloc (Below.refl _ _) _) _
  have hf : Blk w1 (w.heap.size + 1) 49 (nums .i64 [7]).toArray := by
    rw [hw1]
    have := Blk.new (w.alloc (.cells #[] 93)) 49 (nums .i64 [7]).toArray
    simpa using this
  clear hw1 c0 m1
  have HB1 := Aside0.mk hb1
  have HF := Aside0.mk hf
  clear hb1 hf
  go_wp2_with fail
  refine (contains1 w1 (w.heap.size + 1) 7 HF.out).mono ?_
  rintro e w2 ⟨rfl, hb2⟩
  have HB2 := Aside0.mk (HB1.out.trans (hb2.mono HB1.out.size))
  clear hb2
  have hg2 := HG.out.below HB2.out HG.out.lt
  have c0 : w2.cell? ⟨g, 0, none⟩ = some (.iface 93 (.agg #[])) := hg2.cell 0
  have c1 : w2.cell? ⟨g, 1, none⟩ = some (.int .i64 9) := hg2.cell 1
  have hl := run_lk w2 gm (.iface 3 (.int .i64 mg)) ((HB2.out.block gm (blk_lt HM.out)).trans HM.out)
  have ha := run_ta mg
  have m2 := meth2_ean13
  clear hg2
  go_wp2_with fail
  refine (HE.out w2).mono ?_
  rintro e w3 ⟨v, rfl, hr, hb3⟩
  obtain ⟨A, c, rfl, hcl, hc⟩ := Kd.R_reads hr
  have HB3 := Aside0.mk (HB2.out.trans (hb3.mono HB2.out.size))
  have HC := Aside0.mk hc
  clear hc hcl hr hb3 c0 c1 hl
  go_wp2_with fail
  obtain ⟨hfull, hout, hmany, hleft, hrs, hR⟩ := HH.out
  refine (render w3 A c code wd mg full out many left rs R HC.out q0 hm0 hm1 h1 hw1 hlc hfull hout hmany hleft hrs hR).mono ?_
  clear hfull hout hmany hleft hrs hR
  rintro e w4 ⟨rfl, hx1, hx2, hb4⟩
  have HX1 := Aside0.mk hx1
  have HX2 := Aside0.mk hx2
  have HB4 := Aside0.mk (HB3.out.trans (hb4.mono HB3.out.size))
  clear hx1 hx2 hb4
  go_wp2
  go_ret2
  exact ⟨_, HB3.out.size, rfl, HX1.out, HX2.out, HB4.out⟩

set_option maxHeartbeats 2000000 in
set_option maxRecDepth 100000 in
theorem encode_ean13_no (w : World) (g gm : Nat) (text : ByteArray) (wd mg : Int) 
    (hg : Blk w g 106 #[.iface 93 (.agg #[]), .int .i64 9]) (hm : w.heap[gm]? = some (.map #[⟨.int .i64 5, .iface 3 (.int .i64 mg), 0⟩] 1)) (h0 : 0 < text.size) (h1 : 0 ≤ wd)
    (henc : ∀ W : World, Calls Tryz.prog 167 #[.agg #[], .string text, .map (some gm)] W fun e w' => ∃ v x, e = .returned (.tuple #[v, .iface 141 x]) ∧ Below W.heap.size W w') :
    Calls Tryz.prog 94 #[.pointer (some ⟨g, 0, none⟩), .string text, .int .i64 7, .int .i64 wd, .int .i64 1, .map (some gm)] w fun e w' => (∃ x, e = .returned (.tuple #[.pointer none, .iface 141 x])) ∧ Below w.heap.size w w' := by
  have c0 : w.cell? ⟨g, 0, none⟩ = some (.iface 93 (.agg #[])) := hg.cell 0
  have hlen : ((text.size : Int) == 0) = false := beq_eq_false_iff_ne.mpr (by omega)
  have hwd : decide (wd < 0) = false := decide_eq_false (by omega)
  have m1 := meth1_ean13
  have HG := Aside0.mk hg
  have HM := Aside0.mk hm
  have HE := Aside0.mk henc
  clear hg hm henc
  go_enter Tryz.func94, Tryz.ntmps94
  go_wp2_with fail
  refine (fmts_ean13 w).mono ?_
  rintro e w1 ⟨rfl, hw1⟩
  have hb1 : Below w.heap.size w w1 := by rw [hw1]; exact below_alloc (below_alloc (Below.refl _ _) _) _
  have hf : Blk w1 (w.heap.size + 1) 49 (nums .i64 [7]).toArray := by
    rw [hw1]
    have := Blk.new (w.alloc (.cells #[] 93)) 49 (nums .i64 [7]).toArray
    simpa using this
  clear hw1 c0 m1
  have HB1 := Aside0.mk hb1
  have HF := Aside0.mk hf
  clear hb1 hf
  go_wp2_with fail
  refine (contains1 w1 (w.heap.size + 1) 7 HF.out).mono ?_
  rintro e w2 ⟨rfl, hb2⟩
  have HB2 := Aside0.mk (HB1.out.trans (hb2.mono HB1.out.size))
  clear hb2
  have hg2 := HG.out.below HB2.out HG.out.lt
  have c0 : w2.cell? ⟨g, 0, none⟩ = some (.iface 93 (.agg #[])) := hg2.cell 0
  have c1 : w2.cell? ⟨g, 1, none⟩ = some (.int .i64 9) := hg2.cell 1
  have hl := run_lk w2 gm (.iface 3 (.int .i64 mg)) ((HB2.out.block gm (blk_lt HM.out)).trans HM.out)
  have ha := run_ta mg
  have m2 := meth2_ean13
  clear hg2
  go_wp2_with fail
  refine (HE.out w2).mono ?_
  rintro e w3 ⟨v, x, rfl, hb3⟩
  have HB3 := Aside0.mk (HB2.out.trans (hb3.mono HB2.out.size))
  clear hb3 c0 c1 hl
  go_wp2
  go_ret2
  exact ⟨⟨_, rfl⟩, HB3.out⟩

set_option maxHeartbeats 2000000 in
set_option maxRecDepth 100000 in
theorem odWrite_ean13_ok (w : World) (text : ByteArray) (wd mg : Int) (code : List Bool) (full out many left rs : Int) (R OUT : Nat) (h0 : 0 < text.size) (h1 : 0 ≤ wd)
    (q0 : 0 < (code.length : Int) + mg) (hm0 : 0 ≤ mg) (hm1 : mg ≤ 1000) (hw1 : wd ≤ 100000) (hlc : code.length ≤ 100000)
    (hfull : (code.length : Int) + mg = full) (hout : (if full < wd then wd else full) = out) (hmany : out / full = many) (hleft : (out - code.length * many) / 2 = left) (hrs : (out + 31) / 32 = rs) (hR : rs = (R : Int)) (hOUT : out = (OUT : Int))
    (henc : ∀ (gm : Nat) (W : World), Calls Tryz.prog 167 #[.agg #[], .string text, .map (some gm)] W fun e w' => ∃ v, e = .returned (.tuple #[v, .nilIface]) ∧ Kd.R Kd.bool 4 w' W.heap.size (fun _ => True) v code ∧ Below W.heap.size W w') :
    Calls Tryz.prog 15 #[.int .i64 7, .string text, .int .i64 wd, .int .i64 mg] w fun e w' => ∃ b, e = .returned (.tuple #[.slice (some ⟨b, 0, none⟩) OUT OUT, .bool true]) ∧ Blk w' b 4 (bools (unbits (cpy (paint code left many (List.replicate R 0) code.length) (List.replicate R 0) 0 R) OUT)).toArray ∧ Below w.heap.size w w' := by
  have hmm := @run_makeMap Tryz.prog
  have HE := Aside0.mk henc
  clear henc
  have HH := Aside0.mk (⟨hfull, hout, hmany, hleft, hrs, hR, hOUT⟩ : _ ∧ _ ∧ _ ∧ _ ∧ _ ∧ _ ∧ _)
  have hob : 0 ≤ out ∧ out ≤ 200000 := by split at hout <;> omega
  obtain ⟨hob1, hob2⟩ := hob
  clear hfull hout hmany hleft hrs hR hOUT
  go_enter Tryz.func15, Tryz.ntmps15
  go_wp2_with fail
  refine (writer_ean13 w).mono ?_
  rintro e w1 ⟨rfl, hw1⟩
  have hi := run_ins w1 (.iface 3 (.int .i64 mg))
  have hq := methE w.heap.size
  have hb1 : Below w.heap.size w w1 := by rw [hw1]; exact below_alloc (Below.refl _ _) _
  have hg : Blk w1 w.heap.size 106 #[.iface 93 (.agg #[]), .int .i64 9] := by rw [hw1]; exact Blk.new _ _ _
  have HB1 := Aside0.mk hb1
  have HG := Aside0.mk hg
  clear hw1 hb1 hg
  go_wp2_with fail
  obtain ⟨hfull, hout, hmany, hleft, hrs, hR, hOUT⟩ := HH.out
  have hma : Below w1.heap.size w1 (w1.alloc (.map #[⟨.int .i64 5, .iface 3 (.int .i64 mg), 0⟩] 1)) := below_alloc (Below.refl _ _) _
  refine (encode_ean13_ok _ w.heap.size w1.heap.size text wd mg code full out many left rs R (HG.out.below hma HG.out.lt) (heap_alloc_new _ _) h0 h1 q0 hm0 hm1 hw1 hlc hfull hout hmany hleft hrs hR (HE.out _)).mono ?_
  rintro e w2 ⟨b, hb, rfl, hx1, hx2, hb2⟩
  have hl : (paint code left many (List.replicate R 0) code.length).length = R := by rw [paint_length, List.length_replicate]
  have HX1 := Aside0.mk hx1
  have HX2 := Aside0.mk hx2
  have HB2 := Aside0.mk (HB1.out.trans ((hma.mono HB1.out.size).trans (hb2.mono (Nat.le_trans HB1.out.size hma.size))))
  have HLL := Aside0.mk hl
  clear hfull hout hmany hleft hrs hR hOUT hma hx1 hx2 hb2 hl hi hmm hq hb
  go_wp2_with fail
  obtain ⟨hfull, hout, hmany, hleft, hrs, hR, hOUT⟩ := HH.out
  refine (getRow w2 (b + 1) b out 1 rs 0 _ R R HX2.out HX1.out HLL.out (by omega) hrs hR (by omega) (by omega) (by omega) (by omega) (by omega)).mono ?_
  rintro e w3 ⟨rfl, hy1, hy2, hb3, hsz⟩
  rw [Int.zero_mul] at hy1
  have hl2 : (cpy (paint code left many (List.replicate R 0) code.length) (List.replicate R 0) 0 R).length = R := by rw [cpy_length, List.length_replicate]
  have HY1 := Aside0.mk hy1
  rw [hOUT] at hy2
  have HY2 := Aside0.mk hy2
  have HB3 := Aside0.mk (HB2.out.trans (hb3.mono HB2.out.size))
  have HL2 := Aside0.mk hl2
  have h32 : ((OUT : Int) + 31) / 32 = R := by rw [← hOUT, hrs, hR]
  have H32 := Aside0.mk h32
  have hou : OUT ≤ 200000 := by omega
  clear hfull hout hmany hleft hrs hR hy1 hy2 hb3 hsz hl2 h32 HLL hOUT
  go_wp2_with fail
  refine (toBools w3 _ _ OUT _ R HY2.out HY1.out HL2.out (by have := H32.out; omega) (by omega) H32.out).mono ?_
  rintro e w4 ⟨rfl, hz, hb4⟩
  have HZ := Aside0.mk hz
  have HB4 := Aside0.mk (HB3.out.trans (hb4.mono HB3.out.size))
  clear hz hb4
  go_wp2
  go_ret2
  exact ⟨_, rfl, HZ.out, HB4.out⟩

set_option maxHeartbeats 2000000 in
set_option maxRecDepth 100000 in
theorem odWrite_ean13_no (w : World) (text : ByteArray) (wd mg : Int) (h0 : 0 < text.size) (h1 : 0 ≤ wd)
    (henc : ∀ (gm : Nat) (W : World), Calls Tryz.prog 167 #[.agg #[], .string text, .map (some gm)] W fun e w' => ∃ v x, e = .returned (.tuple #[v, .iface 141 x]) ∧ Below W.heap.size W w') :
    Calls Tryz.prog 15 #[.int .i64 7, .string text, .int .i64 wd, .int .i64 mg] w fun e w' => e = .returned (.tuple #[.slice none 0 0, .bool false]) ∧ Below w.heap.size w w' := by
  have hmm := @run_makeMap Tryz.prog
  have HE := Aside0.mk henc
  clear henc
  go_enter Tryz.func15, Tryz.ntmps15
  go_wp2_with fail
  refine (writer_ean13 w).mono ?_
  rintro e w1 ⟨rfl, hw1⟩
  have hi := run_ins w1 (.iface 3 (.int .i64 mg))
  have hq := methE w.heap.size
  have hb1 : Below w.heap.size w w1 := by rw [hw1]; exact below_alloc (Below.refl _ _) _
  have hg : Blk w1 w.heap.size 106 #[.iface 93 (.agg #[]), .int .i64 9] := by rw [hw1]; exact Blk.new _ _ _
  have HB1 := Aside0.mk hb1
  have HG := Aside0.mk hg
  clear hw1 hb1 hg
  go_wp2_with fail
  have hma : Below w1.heap.size w1 (w1.alloc (.map #[⟨.int .i64 5, .iface 3 (.int .i64 mg), 0⟩] 1)) := below_alloc (Below.refl _ _) _
  refine (encode_ean13_no _ w.heap.size w1.heap.size text wd mg (HG.out.below hma HG.out.lt) (heap_alloc_new _ _) h0 h1 (HE.out _)).mono ?_
  rintro e w2 ⟨⟨x, rfl⟩, hb2⟩
  have HB2 := Aside0.mk (HB1.out.trans ((hma.mono HB1.out.size).trans (hb2.mono (Nat.le_trans HB1.out.size hma.size))))
  clear hma hb2 hi hmm hq
  go_wp2
  go_ret2
  exact ⟨rfl, HB2.out⟩

/-- ODWrite of the format 7: the row of the code. -/
theorem odRowW_ean13 (w : World) (text : ByteArray) (wd mg : Int) (code : List Bool) (h0 : 0 < text.size) (h1 : 0 ≤ wd)
    (q0 : 0 < (code.length : Int) + mg) (hm0 : 0 ≤ mg) (hm1 : mg ≤ 1000) (hw1 : wd ≤ 100000) (hlc : code.length ≤ 100000)
    (henc : ∀ (gm : Nat) (W : World), Calls Tryz.prog 167 #[.agg #[], .string text, .map (some gm)] W fun e w' => ∃ v, e = .returned (.tuple #[v, .nilIface]) ∧ Kd.R Kd.bool 4 w' W.heap.size (fun _ => True) v code ∧ Below W.heap.size W w') :
    Calls Tryz.prog 15 #[.int .i64 7, .string text, .int .i64 wd, .int .i64 mg] w fun e w' => ∃ b, e = .returned (.tuple #[.slice (some ⟨b, 0, none⟩) (rowOf code wd mg).length (rowOf code wd mg).length, .bool true]) ∧ Blk w' b 4 (bools (rowOf code wd mg)).toArray ∧ Below w.heap.size w w' := by
  have ho := rOut_ge code wd mg q0 hm1 hw1 hlc
  refine (odWrite_ean13_ok w text wd mg code (rFull code mg) (rOut code wd mg) (rMany code wd mg) (rLeft code wd mg) ((rOut code wd mg + 31) / 32) ((rOut code wd mg + 31) / 32).toNat (rOut code wd mg).toNat h0 h1 q0 hm0 hm1 hw1 hlc rfl rfl rfl rfl rfl (by omega) (by omega) henc).mono ?_
  rintro e w' ⟨b, rfl, hb, hw⟩
  rw [row_eqOf code wd mg q0 hm0 hm1 hw1 hlc _ (by omega)] at hb
  exact ⟨b, by rw [rowOf_length], hb, hw⟩
end Go.Proofs.YthkddnmomjcdaaaGreat.B
