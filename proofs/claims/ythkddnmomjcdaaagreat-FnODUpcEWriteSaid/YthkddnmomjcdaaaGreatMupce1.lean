import Derived.Test.YthkddnmomjcdaaaGreatMupce0
namespace Go.Proofs.YthkddnmomjcdaaaGreat.B
open Go.RowKit Go.Proofs.YthkddnmomjcdaaaGreatW.PrintWords Go.Proofs.YthkddnmomjcdaaaGreatW.PrintLast Go.Proofs.YthkddnmomjcdaaaGreatW.PrintMore
set_option linter.unusedVariables false
set_option linter.unusedSimpArgs false

/-! ### The patterns, and turned round -/
def allocRows : World → List (List Int) → World
  | w, [] => w
  | w, r :: rs => allocRows (w.alloc (.cells (nums .i64 r).toArray 3)) rs
theorem allocRows_size (w : World) (rs : List (List Int)) : (allocRows w rs).heap.size = w.heap.size + rs.length := by
  induction rs generalizing w with
  | nil => rfl
  | cons r rs ih => rw [allocRows, ih]; simp; omega
theorem allocRows_below (w : World) (rs : List (List Int)) (B : Nat) (w0 : World) (h : Below B w0 w) (hB : B ≤ w.heap.size) : Below B w0 (allocRows w rs) := by
  induction rs generalizing w with
  | nil => exact h
  | cons r rs ih => exact ih _ (h.alloc hB _) (by simp; omega)
theorem allocRows_kept (w : World) (rs : List (List Int)) {g : Nat} {t : TypeId} {cs : Array Value} (h : Blk w g t cs) : Blk (allocRows w rs) g t cs := by
  induction rs generalizing w with
  | nil => exact h
  | cons r rs ih => exact ih _ (h.alloc _)
theorem allocRows_blk (w : World) (rs : List (List Int)) (i : Nat) (h : i < rs.length) : Blk (allocRows w rs) (w.heap.size + i) 3 (nums .i64 (rs.getD i [])).toArray := by
  induction rs generalizing w i with
  | nil => simp at h
  | cons r rs ih =>
    cases i with
    | zero => exact allocRows_kept _ rs (Blk.new w 3 _)
    | succ i =>
      have := ih (w.alloc (.cells (nums .i64 r).toArray 3)) i (by simpa using h)
      rw [show (w.alloc (.cells (nums .i64 r).toArray 3)).heap.size = w.heap.size + 1 by simp] at this
      rwa [show w.heap.size + 1 + i = w.heap.size + (i + 1) by omega] at this
def rowCells (b : Nat) : Array Value := #[.slice (some ⟨b, 0, none⟩) 4 4, .slice (some ⟨b + 1, 0, none⟩) 4 4, .slice (some ⟨b + 2, 0, none⟩) 4 4, .slice (some ⟨b + 3, 0, none⟩) 4 4, .slice (some ⟨b + 4, 0, none⟩) 4 4, .slice (some ⟨b + 5, 0, none⟩) 4 4, .slice (some ⟨b + 6, 0, none⟩) 4 4, .slice (some ⟨b + 7, 0, none⟩) 4 4, .slice (some ⟨b + 8, 0, none⟩) 4 4, .slice (some ⟨b + 9, 0, none⟩) 4 4]
theorem rowCells_get (b d : Nat) (h : d < 10) : (rowCells b)[d]? = some (.slice (some ⟨b + d, 0, none⟩) 4 4) := by
  match d, h with
  | 0, _ => rfl
  | 1, _ => rfl
  | 2, _ => rfl
  | 3, _ => rfl
  | 4, _ => rfl
  | 5, _ => rfl
  | 6, _ => rfl
  | 7, _ => rfl
  | 8, _ => rfl
  | 9, _ => rfl
set_option maxHeartbeats 2000000 in
set_option maxRecDepth 100000 in
theorem lpats_exact (w : World) : Calls Tryz.prog 164 #[] w fun e w' => e = .returned (.slice (some ⟨w.heap.size + 10, 0, none⟩) 10 10) ∧ Blk w' (w.heap.size + 10) 40 (rowCells w.heap.size) ∧ (∀ d : Nat, d < 10 → Blk w' (w.heap.size + d) 3 (nums .i64 (lp d)).toArray) ∧ Below w.heap.size w w' ∧ w'.heap.size = w.heap.size + 11 := by
  have key : ∀ w' : World, w' = (allocRows w lpats).alloc (.cells (rowCells w.heap.size) 40) → Blk w' (w.heap.size + 10) 40 (rowCells w.heap.size) ∧ (∀ d : Nat, d < 10 → Blk w' (w.heap.size + d) 3 (nums .i64 (lp d)).toArray) ∧ Below w.heap.size w w' ∧ w'.heap.size = w.heap.size + 11 := by
    rintro w' rfl
    have hs := allocRows_size w lpats
    have hl : lpats.length = 10 := rfl
    refine ⟨?_, fun d hd => (allocRows_blk w lpats d (by omega)).alloc _, (allocRows_below w lpats _ w (Below.refl _ _) (Nat.le_refl _)).alloc (by omega) _, by simp; omega⟩
    have := Blk.new (allocRows w lpats) 40 (rowCells w.heap.size)
    rwa [hs, hl] at this
  have KEY := Aside0.mk key
  clear key
  go_enter Tryz.func164, Tryz.ntmps164
  go_wp2
  go_ret
  exact ⟨rfl, KEY.out _ rfl⟩

/-- A pattern of the sets A (from 0 on) and B (from 10 on). -/
def lg (d : Nat) : List Int := if d < 10 then lp d else (lp ((d - 10 : Nat) : Int)).reverse
def z20 : List Value := List.replicate 20 (Value.slice none 0 0)
theorem make_20 (w : World) : (Instr.makeSlice 188 (.int .i64 20) (.int .i64 20)).run Tryz.prog w = .ok (.slice (some ⟨w.heap.size, 0, none⟩) 20 20) (w.alloc (.cells z20.toArray 40)) := by
  obtain ⟨i, hi, hz, hs, hb⟩ := info_parts F.info40
  have := run_make_rowN (P := Tryz.prog) 188 40 i (.slice none 0 0) Tryz.underlying188 hi hz .i64 .i64 20 20 (Nat.le_refl _) (by rw [hb]; omega) (by omega) w
  have e : madeCells (Value.slice none 0 0).cells (20 * 1) = z20.toArray := by
    apply Array.toList_inj.1
    rw [Nat.mul_one]
    exact (toList_madeCells_one _ _).trans (by simp [z20])
  rw [hs, e] at this
  exact this
def z4 : List Int := List.replicate 4 0
theorem make_4 (w : World) : (Instr.makeSlice 40 (.int .i64 4) (.int .i64 4)).run Tryz.prog w = .ok (.slice (some ⟨w.heap.size, 0, none⟩) 4 4) (w.alloc (.cells (nums .i64 z4).toArray 3)) := by
  obtain ⟨i, hi, hz, hs, hb⟩ := info_parts F.info3
  have := run_make_rowN (P := Tryz.prog) 40 3 i (.int .i64 0) Tryz.underlying40 hi hz .i64 .i64 4 4 (Nat.le_refl _) (by rw [hb]; omega) (by omega) w
  have e : madeCells (Value.int .i64 0).cells (4 * 1) = (nums .i64 z4).toArray := by
    apply Array.toList_inj.1
    rw [Nat.mul_one]
    exact (toList_madeCells_one _ _).trans (by simp [z4, nums])
  rw [hs, e] at this
  exact this
/-- Row d of the patterns is there. -/
def RowOk (w : World) (g : Nat) (cs : Array Value) (d : Nat) : Prop := ∃ b, cs[d]? = some (.slice (some ⟨b, 0, none⟩) 4 4) ∧ g < b ∧ Blk w b 3 (nums .i64 (lg d)).toArray
def cp20 (b : Nat) : Array Value := ((rowCells b).toList ++ List.replicate 10 (Value.slice none 0 0)).toArray
theorem cp20_get (b d : Nat) (h : d < 10) : (cp20 b)[d]? = some (.slice (some ⟨b + d, 0, none⟩) 4 4) := by
  have h1 := rowCells_get b d h
  unfold cp20
  rw [List.getElem?_toArray, List.getElem?_append_left (by show d < 10; exact h), Array.getElem?_toList]
  exact h1
theorem copyFact (w : World) (g b : Nat) (hg : Blk w g 40 z20.toArray) (hb : Blk w (b + 10) 40 (rowCells b)) :
    (Builtin.copy_ #[188, 188] 3 #[.slice (some ⟨g, 0, none⟩) 20 20, .slice (some ⟨b + 10, 0, none⟩) 10 10]).run Tryz.prog w = .ok (.int .i64 10) (w.setRow g (cp20 b)) := by
  have := run_copy_row (P := Tryz.prog) w 188 188 3 40 g 0 20 20 ⟨b + 10, 0, none⟩ 10 10 z20.toArray 40 (rowCells b).toList Tryz.underlying188 (by kernel_rfl) hg rfl
    (fun j v hj => by
      have h1 := hb.cell j
      have h2 : (⟨b + 10, 0, none⟩ : Addr).add j = ⟨b + 10, j, none⟩ := by unfold Addr.add; simp; try (intro h; exact h.symm)
      rw [h2, h1, ← Array.getElem?_toList]
      exact hj) (by show 0 + 10 ≤ 20; omega) (by
      intro v hv
      simp only [rowCells, List.mem_cons, List.not_mem_nil, or_false] at hv
      rcases hv with rfl | rfl | rfl | rfl | rfl | rfl | rfl | rfl | rfl | rfl <;> rfl)
  exact this
set_option maxHeartbeats 4000000 in
set_option maxRecDepth 100000 in
theorem lgAll (w : World) : Calls Tryz.prog 170 #[] w fun e w' => ∃ cs, e = .returned (.slice (some ⟨w.heap.size, 0, none⟩) 20 20) ∧ Blk w' w.heap.size 40 cs ∧ (∀ d : Nat, d < 20 → RowOk w' w.heap.size cs d) ∧ Below w.heap.size w w' := by
  have hmk := make_20
  have hmk4 := make_4
  go_enter Tryz.func170, Tryz.ntmps170
  go_wp2_with fail
  obtain ⟨w1, hw1⟩ : ∃ w1, w.alloc (.cells z20.toArray 40) = w1 := ⟨_, rfl⟩
  obtain ⟨g, hg⟩ : ∃ g, w.heap.size = g := ⟨_, rfl⟩
  have hbk : Blk w1 g 40 z20.toArray := by rw [← hw1, ← hg]; exact Blk.new _ _ _
  have hb1 : Below g w w1 := by rw [← hw1, ← hg]; exact below_alloc (Below.refl _ _) _
  obtain ⟨b, hb⟩ : ∃ b, w1.heap.size = b := ⟨_, rfl⟩
  have hgb : g < b := by rw [← hb]; exact hbk.lt
  have HG := Aside0.mk hg
  simp only [hw1, hg]
  refine (lpats_exact w1).mono ?_
  rw [hb]
  rintro e w2 ⟨rfl, hb0, hrows, hbel, hsz⟩
  have hbk2 := hbk.below hbel hgb
  have hcp := copyFact w2 g b hbk2 hb0
  have hB2 : Below g w (w2.setRow g (cp20 b)) := by
    have h1 : Below g w w2 := hb1.trans (hbel.mono (by omega))
    exact below_setRow h1 (Nat.le_refl _) _
  have hset : Blk (w2.setRow g (cp20 b)) g 40 (cp20 b) := setRow_heap w2 g _ _ _ _ hbk2
  have hoth : ∀ k, k ≠ g → (w2.setRow g (cp20 b)).heap[k]? = w2.heap[k]? := by
    intro k hk
    simp [World.setRow, Array.getElem?_set, Array.getElem?_modify, Ne.symm hk]
  have hro : ∀ d : Nat, d < 10 → RowOk (w2.setRow g (cp20 b)) g (cp20 b) d := by
    intro d hd
    refine ⟨b + d, cp20_get b d hd, by omega, ?_⟩
    have := hrows d hd
    unfold lg
    rw [if_pos hd]
    exact (hoth _ (by omega)).trans this
  have HSET := Aside0.mk hset
  have HRO := Aside0.mk hro
  have HB2 := Aside0.mk hB2
  have hsz2 : (w2.setRow g (cp20 b)).heap.size = w2.heap.size := size_setRow _ _ _
  have HS2 := Aside0.mk (show g < (w2.setRow g (cp20 b)).heap.size by omega)
  clear hbk hb1 hb0 hrows hbel hsz hbk2 hB2 hset hoth hro hw1 hg hb hsz2
  go_wp2_with fail
  go_loopw [2] (fun v wr => ∃ (q : Nat) (cs : Array Value), q ≤ 10 ∧ v = .int .i64 (10 + (q : Int)) ∧ Aside0 (Blk wr g 40 cs) ∧ Aside0 (cs.size = 20) ∧ Aside0 (∀ d : Nat, d < 10 + q → RowOk wr g cs d) ∧ Aside0 (Below g w wr)) (fun v _ => 20 - (intOf v).toNat)
  case atStart => exact ⟨0, cp20 b, by omega, rfl, HSET, ⟨rfl⟩, HRO, HB2⟩
  case round =>
    obtain ⟨q, cs, hq, rfl, HX, HCS, HR, HB⟩ := hrel
    clear HSET HRO HB2 HS2
    by_cases hlt : q < 10
    · have d1 : decide (10 + (q : Int) < 20) = true := decide_eq_true (by omega)
      go_wp2_with fail
      obtain ⟨b2, hb2⟩ : ∃ b2, wr.heap.size = b2 := ⟨_, rfl⟩
      have hgb2 : g < b2 := by rw [← hb2]; exact HX.out.lt
      refine (lpats_exact wr).mono ?_
      rw [hb2]
      rintro e w3 ⟨rfl, hp0, hrows, hbel, hsz⟩
      have HX3 := Aside0.mk (HX.out.below hbel hgb2)
      have HR3 := Aside0.mk (show ∀ d : Nat, d < 10 + q → RowOk w3 g cs d from fun d hd => by
        obtain ⟨k, h1, h2, h3⟩ := HR.out d hd
        exact ⟨k, h1, h2, h3.below hbel (by rw [← hb2]; exact h3.lt)⟩)
      have HB3 := Aside0.mk (show Below g w w3 from HB.out.trans (hbel.mono (by omega)))
      have hcell : w3.cell? ⟨b2 + 10, q, none⟩ = some (.slice (some ⟨b2 + q, 0, none⟩) 4 4) := by rw [hp0.cell]; exact rowCells_get b2 q hlt
      have HW3 := Aside0.mk (hrows q hlt)
      have HSZ := Aside0.mk hsz
      clear hp0 hrows hbel hsz HX HR HB hb2
      go_wp2_with fail
      obtain ⟨h, hh⟩ : ∃ h, w3.heap.size = h := ⟨_, rfl⟩
      obtain ⟨w4, hw4⟩ : ∃ w4, w3.alloc (.cells (nums .i64 z4).toArray 3) = w4 := ⟨_, rfl⟩
      have hh11 : h = b2 + 11 := by rw [← hh]; exact HSZ.out
      have hbel : Below h w3 w4 := by rw [← hw4, ← hh]; exact below_alloc (Below.refl _ _) _
      have hb4 : Blk w4 h 3 (nums .i64 (put z4 ([] : List Int))).toArray := by rw [← hw4, ← hh, put_nil]; exact Blk.new _ _ _
      have HX4 := Aside0.mk (HX3.out.below hbel (by omega))
      have HW4 := Aside0.mk (HW3.out.below hbel (by omega))
      have HR4 := Aside0.mk (show ∀ d : Nat, d < 10 + q → RowOk w4 g cs d ∧ ∀ k, cs[d]? = some (.slice (some ⟨k, 0, none⟩) 4 4) → k < h from fun d hd => by
        obtain ⟨k, h1, h2, h3⟩ := HR3.out d hd
        have hk : k < h := by rw [← hh]; exact h3.lt
        refine ⟨⟨k, h1, h2, h3.below hbel hk⟩, fun k' hk' => ?_⟩
        rw [h1] at hk'
        simp only [Option.some.injEq, Value.slice.injEq, Addr.mk.injEq] at hk'
        omega)
      have HB4 := Aside0.mk (show Below g w w4 from HB3.out.trans (hbel.mono (by omega)))
      have HR0 := Aside0.mk hb4
      have HHG := Aside0.mk (show g < h by omega)
      have HH11 := Aside0.mk hh11
      simp only [hw4, hh]
      clear hbel hb4 hw4 hh hh11 HX3 HR3 HB3 HW3 HSZ hcell
      go_loopw [5] (fun v wi => ∃ (j : Nat), j ≤ 4 ∧ v = .int .i64 (j : Int) ∧ Aside0 (Blk wi h 3 (nums .i64 (put z4 ((lp q).reverse.take j))).toArray) ∧ Aside0 (Turn w4 wi h)) (fun v _ => 4 - (intOf v).toNat)
      case atStart => exact ⟨0, by omega, rfl, HR0, ⟨Turn.refl _ _⟩⟩
      case round =>
        obtain ⟨j, hj, rfl, HI, HT⟩ := hrel
        clear HR0
        obtain ⟨l1, _, _⟩ := lp_facts (q : Int) (by omega) (by omega)
        have hrl : ((lp q).reverse.take j).length = j := by rw [List.length_take, List.length_reverse, l1]; omega
        have HRL := Aside0.mk hrl
        have HL1 := Aside0.mk l1
        clear hrl l1
        by_cases hlj : j < 4
        · have e1 : decide ((j : Int) < 4) = true := decide_eq_true (by omega)
          have hw := HT.out.blk HW4.out (by have := HH11.out; omega)
          have c1 : wr.cell? ⟨b2 + q, 4 - j - 1, none⟩ = some (.int .i64 (rd (lp q) ((4 - j - 1 : Nat) : Int))) := by
            have := hw.ucell ((4 - j - 1 : Nat) : Int) (by omega) (by rw [HL1.out]; omega)
            simpa using this
          have c2 : wr.cell? ⟨h, j, none⟩ = some (.int .i64 (rd (put z4 ((lp q).reverse.take j)) (j : Int))) := by
            have := HI.out.ucell (j : Int) (by omega) (by rw [put_length _ _ (by rw [HRL.out]; simp [z4]; omega)]; simp [z4]; omega)
            simpa using this
          have c3 := HI.out.frozen j
          have HI2 := Aside0.mk (show Blk (wr.setCell ⟨h, j, none⟩ (.int .i64 (rd (lp q) ((4 - j - 1 : Nat) : Int)))) h 3 (nums .i64 (put z4 ((lp q).reverse.take (j + 1)))).toArray from by
            have h1 := HI.out.uset j (rd (lp q) ((4 - j - 1 : Nat) : Int))
            have h2 := put_set z4 ((lp q).reverse.take j) (rd (lp q) ((4 - j - 1 : Nat) : Int)) (by rw [HRL.out]; simp [z4]; omega)
            rw [HRL.out] at h2
            rw [h2] at h1
            have h3 : (lp q).reverse.take (j + 1) = (lp q).reverse.take j ++ [rd (lp q) ((4 - j - 1 : Nat) : Int)] := by
              rw [List.take_succ_eq_append_getElem (by rw [List.length_reverse, HL1.out]; omega), List.getElem_reverse]
              congr 2
              unfold rd
              rw [List.getD_eq_getElem?_getD, Int.toNat_natCast, List.getElem?_eq_getElem (by rw [HL1.out]; omega)]
              simp only [HL1.out, Option.getD_some]
              congr 1
              omega
            rw [h3]
            exact h1)
          have HT2 := Aside0.mk (HT.out.trans (Turn.set wr h j (.int .i64 (rd (lp q) ((4 - j - 1 : Nat) : Int)))))
          clear hw
          go_wp2
          go_roundw
          case rel => exact ⟨j + 1, by omega, by go_num, HI2, HT2⟩
          case measure => simp [intOf]; omega
        · obtain rfl : j = 4 := by omega
          have HX5 := Aside0.mk (HT.out.blk HX4.out (by have := HHG.out; omega))
          have c1 : wr.cell? ⟨g, 10 + q, none⟩ = cs[10 + q]? := HX5.out.cell (10 + q)
          have hcq : cs[10 + q]? = some (cs[10 + q]'(by have := HCS.out; omega)) := Array.getElem?_eq_getElem _
          rw [hcq] at c1
          have c2 := HX5.out.frozen (10 + q)
          have HCQ := Aside0.mk hcq
          clear hcq
          have hlr : put z4 ((lp q).reverse.take 4) = lg (10 + q) := by
            have hr4 : (lp q).reverse.take 4 = (lp q).reverse := List.take_of_length_le (by rw [List.length_reverse, HL1.out]; omega)
            unfold lg
            rw [if_neg (by omega), hr4, show 10 + q - 10 = q by omega, put_all _ _ (by rw [List.length_reverse, HL1.out]; rfl)]
          have HI5 := Aside0.mk HI.out
          rw [hlr] at HI5
          clear hlr
          go_wp2
          go_roundw
          case rel =>
            refine ⟨q + 1, cs.setIfInBounds (10 + q) (.slice (some ⟨h, 0, none⟩) 4 4), by omega, by go_num, ⟨?_⟩, ⟨by simpa using HCS.out⟩, ⟨?_⟩, ⟨?_⟩⟩
            · exact blk_set HX5.out (10 + q) _
            · intro d hd
              by_cases e : d = 10 + q
              · subst e
                refine ⟨h, by rw [Array.getElem?_setIfInBounds_self, if_pos (by have := HCS.out; omega)], HHG.out, ?_⟩
                exact HI5.out.far (by have := HHG.out; simp only; omega) _
              · obtain ⟨⟨k, h1, h2, h3⟩, h4⟩ := HR4.out d (by omega)
                have hk := h4 k h1
                refine ⟨k, by rw [Array.getElem?_setIfInBounds_ne (by omega)]; exact h1, h2, ?_⟩
                exact (HT.out.blk h3 (by omega)).far (by simp only; omega) _
            · exact (HB4.out.trans (HT.out.below (Nat.le_of_lt HHG.out))).trans ((Turn.set wr g (10 + q) _).below (Nat.le_refl _))
          case measure => simp [intOf]; omega
    · obtain rfl : q = 10 := by omega
      go_wp2
      go_ret
      refine ⟨cs, ?_, ?_, ?_, ?_⟩
      · rw [HG.out]; rfl
      · rw [HG.out]; exact HX.out
      · rw [HG.out]; exact HR.out
      · rw [HG.out]; exact HB.out

theorem lg_facts (d : Nat) (h : d < 20) : (lg d).length = 4 ∧ (∀ p ∈ lg d, 0 ≤ p ∧ p ≤ 1000) ∧ ∀ c, (bars c (lg d)).length = 7 := by
  have : ∀ d : Fin 20, (lg d.val).length = 4 ∧ (∀ p ∈ lg d.val, 0 ≤ p ∧ p ≤ 1000) ∧ ∀ c, (bars c (lg d.val)).length = 7 := by decide +kernel
  exact this ⟨d, h⟩
theorem pats170 (w : World) (d : Nat) (h : d < 20) : Calls Tryz.prog 170 #[] w fun e w' => ∃ g A, e = .returned (.slice (some ⟨g, 0, none⟩) 20 20) ∧ w'.cell? ⟨g, d, none⟩ = some (.slice A 4 4) ∧ Kd.C (Kd.int .i64) w' A 4 (lg d) ∧ Below w.heap.size w w' := by
  refine (lgAll w).mono ?_
  rintro e w' ⟨cs, rfl, hb, hr, hbel⟩
  obtain ⟨k, h1, _, h3⟩ := hr d h
  have hc := C_nums h3 (by rw [(lg_facts d h).1]; omega)
  rw [(lg_facts d h).1] at hc
  exact ⟨_, _, rfl, by rw [hb.cell]; exact h1, hc, hbel⟩
def fde : List Int := [0, 11, 13, 14, 19, 25, 28, 21, 22, 26]
theorem first169 (w : World) (d : Int) (h0 : 0 ≤ d) (h9 : d ≤ 9) : Calls Tryz.prog 169 #[] w fun e w' => ∃ ad c, e = .returned (.slice (some ad) 10 c) ∧ w'.cell? (ad.add d.toNat) = some (.int .i64 (rd fde d)) ∧ Below w.heap.size w w' := by
  refine (F.oned_ean13Reader_FIRST_DIGIT_ENCODINGS.calls fde w rfl).mono ?_
  rintro e w' ⟨v, rfl, hn, hb⟩
  obtain ⟨A, c, rfl, hcc, hc⟩ := Kd.R_reads hn
  obtain ⟨ad, rfl, h1⟩ := Kd.at_int hc d h0 (by show d < ((10 : Nat) : Int); omega)
  exact ⟨ad, c, rfl, h1, hb⟩

/-! ### The encoder of EAN-13 -/
def par (f : Int) (k : Nat) : Bool := (rd fde f).toNat.testBit (5 - k)
def lix (t : ByteArray) (k : Nat) : Nat := (dgt t (1 + k)).toNat + if par (dgt t 0) k then 10 else 0
def left13 (t : ByteArray) (n : Nat) : List Bool := (List.range n).flatMap fun k => bars false (lg (lix t k))
theorem left13_next (t : ByteArray) (n : Nat) : left13 t (n + 1) = left13 t n ++ bars false (lg (lix t n)) := by
  unfold left13
  rw [List.range_succ, List.flatMap_append]
  simp
theorem lix_lt (t : ByteArray) (k : Nat) (h : dgt t (1 + k) ≤ 9) : lix t k < 20 := by
  unfold lix; split <;> omega
theorem left13_length (t : ByteArray) (n : Nat) (h : ∀ k < n, dgt t (1 + k) ≤ 9) : (left13 t n).length = 7 * n := by
  induction n with
  | zero => rfl
  | succ n ih =>
    rw [left13_next, List.length_append, ih (fun k hk => h k (by omega)), (lg_facts _ (lix_lt t n (h n (by omega)))).2.2]
    omega
def pre13 (t : ByteArray) (i : Nat) : List Bool := bars true [1, 1, 1] ++ left13 t i
def mid13 (t : ByteArray) (i : Nat) : List Bool := pre13 t 6 ++ bars false [1, 1, 1, 1, 1] ++ digs_ t 7 true i
def code13 (t : ByteArray) : List Bool := mid13 t 6 ++ bars true [1, 1, 1]
theorem pre13_length (t : ByteArray) (h : AllDig t 13) (i : Nat) (hi : i ≤ 6) : (pre13 t i).length = 3 + 7 * i := by
  unfold pre13
  rw [List.length_append, left13_length _ _ (fun k hk => h _ (by omega))]
  rfl
theorem mid13_length (t : ByteArray) (h : AllDig t 13) (i : Nat) (hi : i ≤ 6) : (mid13 t i).length = 50 + 7 * i := by
  unfold mid13
  rw [List.length_append, List.length_append, digs_length _ _ _ _ (fun k hk => h _ (by omega)), pre13_length t h 6 (by omega)]
  have : (bars false [1, 1, 1, 1, 1]).length = 5 := rfl
  omega
theorem code13_length (t : ByteArray) (h : AllDig t 13) : (code13 t).length = 95 := by
  unfold code13
  rw [List.length_append, mid13_length t h 6 (by omega)]
  rfl
theorem par_bit (f : Int) (h0 : 0 ≤ f) (h9 : f ≤ 9) (k : Nat) (hk : k < 6) : (bits BinOp.and IntKind.i64 (rd fde f / 2 ^ (6 - (1 + k))) 1 == 1) = par f k := by
  have : ∀ (m : Fin 10) (k : Fin 6), (bits BinOp.and IntKind.i64 (rd fde ((m.val : Nat) : Int) / 2 ^ (6 - (1 + k.val))) 1 == 1) = par ((m.val : Nat) : Int) k.val := by decide +kernel
  have h := this ⟨f.toNat, by omega⟩ ⟨k, hk⟩
  simp only [show ((f.toNat : Nat) : Int) = f by omega] at h
  exact h
def z95 : List Bool := List.replicate 95 false
theorem z95_length : z95.length = 95 := by simp [z95]
theorem make_95 (w : World) : (Instr.makeSlice 27 (.int .i64 95) (.int .i64 95)).run Tryz.prog w = .ok (.slice (some ⟨w.heap.size, 0, none⟩) 95 95) (w.alloc (.cells (bools z95).toArray 4)) := make_bool 95 (by omega) w

set_option maxHeartbeats 4000000 in
set_option maxRecDepth 100000 in
theorem enc13_ok (w : World) (mv : Value) (s t : ByteArray) (h : Full s 12 t) :
    Calls Tryz.prog 167 #[.agg #[], .string s, mv] w fun e w' => ∃ v, e = .returned (.tuple #[v, .nilIface]) ∧ Kd.R Kd.bool 4 w' w.heap.size (fun _ => True) v (code13 t) ∧ Below w.heap.size w w' := by
  have HTS := Aside0.mk h.size
  have HTA := Aside0.mk h.all
  have hmk := make_95
  have hsplit : (∃ (e : (s.size : Int) = 12), AllDig s 12 ∧ t = ckText s 12) ∨ (∃ (e : (s.size : Int) = 13), AllDig s 12 ∧ dgt s 12 = chk s 12 ∧ t = s) := by
    rcases h with ⟨h1, h2, h3⟩ | ⟨h1, h2, h3, h4⟩
    · exact .inl ⟨by omega, h2, h3⟩
    · exact .inr ⟨by omega, fun i hi => h2 i (by omega), h3, h4⟩
  clear h
  rcases hsplit with ⟨hsI, hd, ht⟩ | ⟨hsI, hd, hck, ht⟩
  · have HD := Aside0.mk hd
    have HT := Aside0.mk ht
    have HS := Aside0.mk (show s.size = 12 by omega)
    clear hd ht
    go_enter Tryz.func167, Tryz.ntmps167
    go_wp2_with fail
    refine (ck160 _ s 12 HS.out (by omega)).mono ?_
    rintro e w1 ⟨hp, hb⟩
    have he : e = .returned (.tuple #[.int .i64 (chk s 12), .nilIface]) := by
      rcases hp with ⟨_, h⟩ | ⟨h, _⟩
      · exact h
      · exact absurd HD.out h
    subst he
    have HB1 := Aside0.mk ((below_alloc (Below.refl _ w) (.cells #[] 93)).trans (hb.mono (by simp)))
    clear hp hb
    go_wp2_with fail
    refine (itoaCk _ s 12).mono ?_
    obtain ⟨ck, hck⟩ : ∃ x : ByteArray, (⟨#[UInt8.ofNat (48 + chk s 12).toNat]⟩ : ByteArray) = x := ⟨_, rfl⟩
    have hcs : ck.size = 1 := by rw [← hck]; rfl
    have c9 : s.size + ck.size ≤ 9223372036854775807 := by omega
    have c9b0 := eq_true c9
    have c9b1 : decide (s.size + ck.size ≤ 9223372036854775807) = true := decide_eq_true c9
    have c9b2 : (9223372036854775807 < s.size + ck.size) = False := eq_false (Nat.not_lt.2 c9)
    have HTT := Aside0.mk (show s ++ ck = t by rw [HT.out]; unfold ckText; rw [own_all s 12 HS.out, hck])
    rw [hck]
    rintro e wz ⟨rfl, hb⟩
    have HBZ := Aside0.mk (HB1.out.trans (hb.mono HB1.out.size))
    clear hb HB1 hck hcs
    go_wp2_with fail
    rw [HTT.out]
    clear c9 c9b0 c9b1 c9b2 hsI
    refine (numeric _ t (by have := HTS.out; omega) t.size (Nat.le_refl _) (isDig_all t 13 HTS.out HTA.out) (fun h => absurd h (Nat.lt_irrefl _))).mono ?_
    rintro e w2 ⟨v, rfl, hv, hb2⟩
    obtain rfl : v = .nilIface := by unfold NumPost at hv; rw [if_pos rfl] at hv; exact hv
    have HB2 := Aside0.mk (HBZ.out.trans (hb2.mono HBZ.out.size))
    clear hv hb2 HBZ
    have h0t : 0 < t.size := by have := HTS.out; omega
    obtain ⟨b0, hbt0, hb048, hb057, hbd0⟩ := dgt_at t 13 HTS.out HTA.out 0 (by omega) h0t
    have HBD0 := Aside0.mk hbd0
    clear hbd0
    go_wp2_with fail
    refine (first169 _ (b0 - 48) (by omega) (by omega)).mono ?_
    rintro e w21 ⟨ad1, c1, rfl, hcell1, hb21⟩
    obtain ⟨pv, hpv⟩ : ∃ pv, rd fde (b0 - 48) = pv := ⟨_, rfl⟩
    rw [hpv] at hcell1
    have HPV := Aside0.mk hpv
    have HB21 := Aside0.mk (HB2.out.trans (hb21.mono HB2.out.size))
    clear hpv hb21 HB2
    go_wp2_with fail
    obtain ⟨gt, hgt⟩ : ∃ gt, w21.heap.size = gt := ⟨_, rfl⟩
    obtain ⟨w3, hw3⟩ : ∃ w3, w21.alloc (.cells (bools z95).toArray 4) = w3 := ⟨_, rfl⟩
    have hbk : Blk w3 gt 4 (bools (put z95 [])).toArray := by rw [← hw3, ← hgt, put_nil]; exact Blk.new _ _ _
    have hb3 : Below w.heap.size w w3 := by rw [← hw3]; exact HB21.out.trans ((below_alloc (Below.refl _ w21) _).mono HB21.out.size)
    have hge : w.heap.size ≤ gt := by rw [← hgt]; exact HB21.out.size
    have HB3 := Aside0.mk hb3
    have HBK := Aside0.mk hbk
    simp only [hw3, hgt]
    clear hb3 hbk hw3 hgt HB21 hmk hcell1
    refine (pat163 _).mono ?_
    rintro e w4 ⟨A4, c4, rfl, hc4, hC4, hb4⟩
    have HBK4 := Aside0.mk (HBK.out.below hb4 HBK.out.lt)
    have HB4 := Aside0.mk (HB3.out.trans (hb4.mono HB3.out.size))
    have HC4 := Aside0.mk hC4
    clear hb4 hC4 HBK HB3
    go_wp2_with fail
    refine (appendPat' w4 gt 95 z95 [] A4 c4 [1, 1, 1] true 0 3 rfl rfl HBK4.out z95_length (by omega) (by omega) 3 rfl HC4.out hc4 (by decide) (by omega) (by omega)).mono ?_
    rintro e w5 ⟨rfl, hx, hu⟩
    have HX5 := Aside0.mk hx
    have HB5 := Aside0.mk (HB4.out.trans (hu.below hge HB4.out.size))
    clear hx hu HBK4 HB4 HC4 hc4
    go_wp2
    go_loopw [17, 18] (fun uv v wr => ∃ i : Nat, i ≤ 6 ∧ v = .int .i64 (1 + (i : Int)) ∧ uv = .int .i64 (3 + 7 * (i : Int)) ∧ Aside0 (Blk wr gt 4 (bools (put z95 (pre13 t i))).toArray) ∧ Aside0 (Below w.heap.size w wr)) (fun _ v _ => 8 - (intOf v).toNat)
    case atStart => exact ⟨0, by omega, rfl, rfl, ⟨by have := HX5.out; simpa [pre13, left13] using this⟩, HB5⟩
    case round =>
      obtain ⟨i, hi, rfl, rfl, HX, HB⟩ := hrel
      clear HX5 HB5
      by_cases hlt : i < 6
      · have d1 : decide (1 + (i : Int) ≤ 6) = true := decide_eq_true (by omega)
        have hit : 1 + i < t.size := by have := HTS.out; omega
        obtain ⟨b, hbt, hb48, hb57, hbd⟩ := dgt_at t 13 HTS.out HTA.out (1 + i) (by omega) hit
        have HBD := Aside0.mk hbd
        clear hbd
        have hpb := par_bit (b0 - 48) (by omega) (by omega) i hlt
        rw [HPV.out] at hpb
        obtain ⟨P, hP⟩ : ∃ P, par (b0 - 48) i = P := ⟨_, rfl⟩
        rw [hP] at hpb
        have HP := Aside0.mk hP
        clear hP
        cases P
        · have HPR := Aside0.mk HP.out
          go_wp2_with fail
          refine (pats170 _ (b - 48).toNat (by omega)).mono ?_
          rintro e w6 ⟨g6, A6, rfl, hcell, hC7, hb6⟩
          have HX6 := Aside0.mk (HX.out.below hb6 HX.out.lt)
          have HB6 := Aside0.mk (HB.out.trans (hb6.mono HB.out.size))
          have HC7 := Aside0.mk hC7
          clear hC7 hb6 HX HB hpb
          go_wp2_with fail
          obtain ⟨l1, l2, l3⟩ := lg_facts (b - 48).toNat (by omega)
          have hpl := pre13_length t HTA.out i (by omega)
          refine (appendPat' w6 gt 95 z95 (pre13 t i) A6 4 (lg (b - 48).toNat) false (3 + 7 * (i : Int)) 7 (by rw [hpl]; omega) (by rw [l3 false]; rfl) HX6.out z95_length (by omega) (by omega) 4 l1 HC7.out (by omega) l2 (by omega) (by omega)).mono ?_
          rintro e w7 ⟨rfl, hx, hu⟩
          have HX7 := Aside0.mk hx
          have HB7 := Aside0.mk (HB6.out.trans (hu.below hge HB6.out.size))
          clear hx hu HX6 HB6 HC7 hcell l1 l2 l3 hpl
          go_wp2
          go_roundw
          case rel => exact ⟨i + 1, by omega, by go_num, by go_num, ⟨by
            have := HX7.out
            have hlx : lix t i = (b - 48).toNat := by unfold lix; rw [HBD0.out, HPR.out, HBD.out]; simp; try omega
            rw [show pre13 t (i + 1) = pre13 t i ++ bars false (lg (b - 48).toNat) by unfold pre13; rw [left13_next, hlx, List.append_assoc]]
            exact this⟩, HB7⟩
          case measure => simp [intOf]; omega
        · have HPR := Aside0.mk HP.out
          go_wp2_with fail
          refine (pats170 _ (b - 48 + 10).toNat (by omega)).mono ?_
          rintro e w6 ⟨g6, A6, rfl, hcell, hC7, hb6⟩
          have HX6 := Aside0.mk (HX.out.below hb6 HX.out.lt)
          have HB6 := Aside0.mk (HB.out.trans (hb6.mono HB.out.size))
          have HC7 := Aside0.mk hC7
          clear hC7 hb6 HX HB hpb
          go_wp2_with fail
          obtain ⟨l1, l2, l3⟩ := lg_facts (b - 48 + 10).toNat (by omega)
          have hpl := pre13_length t HTA.out i (by omega)
          refine (appendPat' w6 gt 95 z95 (pre13 t i) A6 4 (lg (b - 48 + 10).toNat) false (3 + 7 * (i : Int)) 7 (by rw [hpl]; omega) (by rw [l3 false]; rfl) HX6.out z95_length (by omega) (by omega) 4 l1 HC7.out (by omega) l2 (by omega) (by omega)).mono ?_
          rintro e w7 ⟨rfl, hx, hu⟩
          have HX7 := Aside0.mk hx
          have HB7 := Aside0.mk (HB6.out.trans (hu.below hge HB6.out.size))
          clear hx hu HX6 HB6 HC7 hcell l1 l2 l3 hpl
          go_wp2
          go_roundw
          case rel => exact ⟨i + 1, by omega, by go_num, by go_num, ⟨by
            have := HX7.out
            have hlx : lix t i = (b - 48 + 10).toNat := by unfold lix; rw [HBD0.out, HPR.out, HBD.out]; simp; try omega
            rw [show pre13 t (i + 1) = pre13 t i ++ bars false (lg (b - 48 + 10).toNat) by unfold pre13; rw [left13_next, hlx, List.append_assoc]]
            exact this⟩, HB7⟩
          case measure => simp [intOf]; omega
      · obtain rfl : i = 6 := by omega
        go_wp2_with fail
        refine (pat165 _).mono ?_
        rintro e w4 ⟨A4, c4, rfl, hc4, hC4, hb4⟩
        have HX4 := Aside0.mk (HX.out.below hb4 HX.out.lt)
        have HB4 := Aside0.mk (HB.out.trans (hb4.mono HB.out.size))
        have HC4 := Aside0.mk hC4
        clear hb4 hC4 HX HB
        go_wp2_with fail
        have hpl := pre13_length t HTA.out 6 (by omega)
        refine (appendPat' w4 gt 95 z95 (pre13 t 6) A4 c4 [1, 1, 1, 1, 1] false 45 5 (by rw [hpl]; rfl) rfl HX4.out z95_length (by omega) (by omega) 5 rfl HC4.out hc4 (by decide) (by omega) (by omega)).mono ?_
        rintro e w5 ⟨rfl, hx, hu⟩
        have HX5 := Aside0.mk hx
        have HB5 := Aside0.mk (HB4.out.trans (hu.below hge HB4.out.size))
        clear hx hu HX4 HB4 HC4 hc4 hpl hlt hi
        go_wp2
        go_loopw [17, 20] (fun pv v wr => ∃ i : Nat, i ≤ 6 ∧ v = .int .i64 (7 + (i : Int)) ∧ pv = .int .i64 (50 + 7 * (i : Int)) ∧ Aside0 (Blk wr gt 4 (bools (put z95 (mid13 t i))).toArray) ∧ Aside0 (Below w.heap.size w wr)) (fun _ v _ => 13 - (intOf v).toNat)
        case atStart => exact ⟨0, by omega, rfl, rfl, ⟨by have := HX5.out; simpa [mid13, digs_] using this⟩, HB5⟩
        case round =>
          obtain ⟨i, hi, rfl, rfl, HX, HB⟩ := hrel
          clear HX5 HB5
          by_cases hlt : i < 6
          · have d1 : decide (7 + (i : Int) ≤ 12) = true := decide_eq_true (by omega)
            have hit : 7 + i < t.size := by have := HTS.out; omega
            obtain ⟨b, hbt, hb48, hb57, hbd⟩ := dgt_at t 13 HTS.out HTA.out (7 + i) (by omega) hit
            have HBD := Aside0.mk hbd
            clear hbd
            go_wp2_with fail
            refine (pats164 _ (b - 48) (by omega) (by omega)).mono ?_
            rintro e w6 ⟨ad, c6, A6, c7, rfl, hcell, hc7, hC7, hb6⟩
            have HX6 := Aside0.mk (HX.out.below hb6 HX.out.lt)
            have HB6 := Aside0.mk (HB.out.trans (hb6.mono HB.out.size))
            have HC7 := Aside0.mk hC7
            clear hC7 hb6 HX HB
            go_wp2_with fail
            obtain ⟨l1, l2, l3⟩ := lp_facts (b - 48) (by omega) (by omega)
            have hpl := mid13_length t HTA.out i (by omega)
            refine (appendPat' w6 gt 95 z95 (mid13 t i) A6 c7 (lp (b - 48)) true (50 + 7 * (i : Int)) 7 (by rw [hpl]; omega) (by rw [l3 true]; rfl) HX6.out z95_length (by omega) (by omega) 4 l1 HC7.out hc7 l2 (by omega) (by omega)).mono ?_
            rintro e w7 ⟨rfl, hx, hu⟩
            have HX7 := Aside0.mk hx
            have HB7 := Aside0.mk (HB6.out.trans (hu.below hge HB6.out.size))
            clear hx hu HX6 HB6 HC7 hcell l1 l2 l3 hpl
            go_wp2
            go_roundw
            case rel => exact ⟨i + 1, by omega, by go_num, by go_num, ⟨by
              have := HX7.out
              rw [show mid13 t (i + 1) = mid13 t i ++ bars true (lp (b - 48)) by unfold mid13; rw [digs_next, HBD.out]; simp only [List.append_assoc]]
              exact this⟩, HB7⟩
            case measure => simp [intOf]; omega
          · obtain rfl : i = 6 := by omega
            go_wp2_with fail
            refine (pat163 _).mono ?_
            rintro e w6 ⟨A6, c6, rfl, hc6, hC6, hb6⟩
            have HX6 := Aside0.mk (HX.out.below hb6 HX.out.lt)
            have HB6 := Aside0.mk (HB.out.trans (hb6.mono HB.out.size))
            have HC6 := Aside0.mk hC6
            clear hb6 hC6 HX HB
            go_wp2_with fail
            have hpl := mid13_length t HTA.out 6 (by omega)
            refine (appendPat' w6 gt 95 z95 (mid13 t 6) A6 c6 [1, 1, 1] true 92 3 (by rw [hpl]; rfl) rfl HX6.out z95_length (by omega) (by omega) 3 rfl HC6.out hc6 (by decide) (by omega) (by omega)).mono ?_
            rintro e w7 ⟨rfl, hx, hu⟩
            have HX7 := Aside0.mk hx
            have HB7 := Aside0.mk (HB6.out.trans (hu.below hge HB6.out.size))
            clear hx hu HX6 HB6 HC6 hc6 hpl
            go_wp2
            go_ret2
            have hlen := code13_length t HTA.out
            refine ⟨_, rfl, ?_, HB7.out⟩
            have hx' : Blk w7 gt 4 (bools (put z95 (code13 t))).toArray := HX7.out
            rw [put_all _ _ (by rw [hlen, z95_length])] at hx'
            exact Kd.R_mono (R_of_blk hx' hlen (by omega) hge) (fun _ _ => trivial)
  · have HD := Aside0.mk hd
    subst ht
    have HCK := Aside0.mk hck
    have HS := Aside0.mk (show t.size = 13 by omega)
    clear hd hck
    go_enter Tryz.func167, Tryz.ntmps167
    go_wp2_with fail
    refine (ck161 _ t 12 HS.out (by omega)).mono ?_
    rintro e wz ⟨hp, hb⟩
    have he : e = .returned (.tuple #[.bool true, .nilIface]) := by
      rcases hp with ⟨_, h⟩ | ⟨h, _⟩
      · rw [h, decide_eq_true HCK.out]
      · exact absurd HD.out h
    subst he
    have HBZ := Aside0.mk ((below_alloc (Below.refl _ w) (.cells #[] 93)).trans (hb.mono (by simp)))
    clear hp hb
    go_wp2_with fail
    clear hsI
    refine (numeric _ t (by have := HTS.out; omega) t.size (Nat.le_refl _) (isDig_all t 13 HTS.out HTA.out) (fun h => absurd h (Nat.lt_irrefl _))).mono ?_
    rintro e w2 ⟨v, rfl, hv, hb2⟩
    obtain rfl : v = .nilIface := by unfold NumPost at hv; rw [if_pos rfl] at hv; exact hv
    have HB2 := Aside0.mk (HBZ.out.trans (hb2.mono HBZ.out.size))
    clear hv hb2 HBZ
    have h0t : 0 < t.size := by have := HTS.out; omega
    obtain ⟨b0, hbt0, hb048, hb057, hbd0⟩ := dgt_at t 13 HTS.out HTA.out 0 (by omega) h0t
    have HBD0 := Aside0.mk hbd0
    clear hbd0
    go_wp2_with fail
    refine (first169 _ (b0 - 48) (by omega) (by omega)).mono ?_
    rintro e w21 ⟨ad1, c1, rfl, hcell1, hb21⟩
    obtain ⟨pv, hpv⟩ : ∃ pv, rd fde (b0 - 48) = pv := ⟨_, rfl⟩
    rw [hpv] at hcell1
    have HPV := Aside0.mk hpv
    have HB21 := Aside0.mk (HB2.out.trans (hb21.mono HB2.out.size))
    clear hpv hb21 HB2
    go_wp2_with fail
    obtain ⟨gt, hgt⟩ : ∃ gt, w21.heap.size = gt := ⟨_, rfl⟩
    obtain ⟨w3, hw3⟩ : ∃ w3, w21.alloc (.cells (bools z95).toArray 4) = w3 := ⟨_, rfl⟩
    have hbk : Blk w3 gt 4 (bools (put z95 [])).toArray := by rw [← hw3, ← hgt, put_nil]; exact Blk.new _ _ _
    have hb3 : Below w.heap.size w w3 := by rw [← hw3]; exact HB21.out.trans ((below_alloc (Below.refl _ w21) _).mono HB21.out.size)
    have hge : w.heap.size ≤ gt := by rw [← hgt]; exact HB21.out.size
    have HB3 := Aside0.mk hb3
    have HBK := Aside0.mk hbk
    simp only [hw3, hgt]
    clear hb3 hbk hw3 hgt HB21 hmk hcell1
    refine (pat163 _).mono ?_
    rintro e w4 ⟨A4, c4, rfl, hc4, hC4, hb4⟩
    have HBK4 := Aside0.mk (HBK.out.below hb4 HBK.out.lt)
    have HB4 := Aside0.mk (HB3.out.trans (hb4.mono HB3.out.size))
    have HC4 := Aside0.mk hC4
    clear hb4 hC4 HBK HB3
    go_wp2_with fail
    refine (appendPat' w4 gt 95 z95 [] A4 c4 [1, 1, 1] true 0 3 rfl rfl HBK4.out z95_length (by omega) (by omega) 3 rfl HC4.out hc4 (by decide) (by omega) (by omega)).mono ?_
    rintro e w5 ⟨rfl, hx, hu⟩
    have HX5 := Aside0.mk hx
    have HB5 := Aside0.mk (HB4.out.trans (hu.below hge HB4.out.size))
    clear hx hu HBK4 HB4 HC4 hc4
    go_wp2
    go_loopw [17, 18] (fun uv v wr => ∃ i : Nat, i ≤ 6 ∧ v = .int .i64 (1 + (i : Int)) ∧ uv = .int .i64 (3 + 7 * (i : Int)) ∧ Aside0 (Blk wr gt 4 (bools (put z95 (pre13 t i))).toArray) ∧ Aside0 (Below w.heap.size w wr)) (fun _ v _ => 8 - (intOf v).toNat)
    case atStart => exact ⟨0, by omega, rfl, rfl, ⟨by have := HX5.out; simpa [pre13, left13] using this⟩, HB5⟩
    case round =>
      obtain ⟨i, hi, rfl, rfl, HX, HB⟩ := hrel
      clear HX5 HB5
      by_cases hlt : i < 6
      · have d1 : decide (1 + (i : Int) ≤ 6) = true := decide_eq_true (by omega)
        have hit : 1 + i < t.size := by have := HTS.out; omega
        obtain ⟨b, hbt, hb48, hb57, hbd⟩ := dgt_at t 13 HTS.out HTA.out (1 + i) (by omega) hit
        have HBD := Aside0.mk hbd
        clear hbd
        have hpb := par_bit (b0 - 48) (by omega) (by omega) i hlt
        rw [HPV.out] at hpb
        obtain ⟨P, hP⟩ : ∃ P, par (b0 - 48) i = P := ⟨_, rfl⟩
        rw [hP] at hpb
        have HP := Aside0.mk hP
        clear hP
        cases P
        · have HPR := Aside0.mk HP.out
          go_wp2_with fail
          refine (pats170 _ (b - 48).toNat (by omega)).mono ?_
          rintro e w6 ⟨g6, A6, rfl, hcell, hC7, hb6⟩
          have HX6 := Aside0.mk (HX.out.below hb6 HX.out.lt)
          have HB6 := Aside0.mk (HB.out.trans (hb6.mono HB.out.size))
          have HC7 := Aside0.mk hC7
          clear hC7 hb6 HX HB hpb
          go_wp2_with fail
          obtain ⟨l1, l2, l3⟩ := lg_facts (b - 48).toNat (by omega)
          have hpl := pre13_length t HTA.out i (by omega)
          refine (appendPat' w6 gt 95 z95 (pre13 t i) A6 4 (lg (b - 48).toNat) false (3 + 7 * (i : Int)) 7 (by rw [hpl]; omega) (by rw [l3 false]; rfl) HX6.out z95_length (by omega) (by omega) 4 l1 HC7.out (by omega) l2 (by omega) (by omega)).mono ?_
          rintro e w7 ⟨rfl, hx, hu⟩
          have HX7 := Aside0.mk hx
          have HB7 := Aside0.mk (HB6.out.trans (hu.below hge HB6.out.size))
          clear hx hu HX6 HB6 HC7 hcell l1 l2 l3 hpl
          go_wp2
          go_roundw
          case rel => exact ⟨i + 1, by omega, by go_num, by go_num, ⟨by
            have := HX7.out
            have hlx : lix t i = (b - 48).toNat := by unfold lix; rw [HBD0.out, HPR.out, HBD.out]; simp; try omega
            rw [show pre13 t (i + 1) = pre13 t i ++ bars false (lg (b - 48).toNat) by unfold pre13; rw [left13_next, hlx, List.append_assoc]]
            exact this⟩, HB7⟩
          case measure => simp [intOf]; omega
        · have HPR := Aside0.mk HP.out
          go_wp2_with fail
          refine (pats170 _ (b - 48 + 10).toNat (by omega)).mono ?_
          rintro e w6 ⟨g6, A6, rfl, hcell, hC7, hb6⟩
          have HX6 := Aside0.mk (HX.out.below hb6 HX.out.lt)
          have HB6 := Aside0.mk (HB.out.trans (hb6.mono HB.out.size))
          have HC7 := Aside0.mk hC7
          clear hC7 hb6 HX HB hpb
          go_wp2_with fail
          obtain ⟨l1, l2, l3⟩ := lg_facts (b - 48 + 10).toNat (by omega)
          have hpl := pre13_length t HTA.out i (by omega)
          refine (appendPat' w6 gt 95 z95 (pre13 t i) A6 4 (lg (b - 48 + 10).toNat) false (3 + 7 * (i : Int)) 7 (by rw [hpl]; omega) (by rw [l3 false]; rfl) HX6.out z95_length (by omega) (by omega) 4 l1 HC7.out (by omega) l2 (by omega) (by omega)).mono ?_
          rintro e w7 ⟨rfl, hx, hu⟩
          have HX7 := Aside0.mk hx
          have HB7 := Aside0.mk (HB6.out.trans (hu.below hge HB6.out.size))
          clear hx hu HX6 HB6 HC7 hcell l1 l2 l3 hpl
          go_wp2
          go_roundw
          case rel => exact ⟨i + 1, by omega, by go_num, by go_num, ⟨by
            have := HX7.out
            have hlx : lix t i = (b - 48 + 10).toNat := by unfold lix; rw [HBD0.out, HPR.out, HBD.out]; simp; try omega
            rw [show pre13 t (i + 1) = pre13 t i ++ bars false (lg (b - 48 + 10).toNat) by unfold pre13; rw [left13_next, hlx, List.append_assoc]]
            exact this⟩, HB7⟩
          case measure => simp [intOf]; omega
      · obtain rfl : i = 6 := by omega
        go_wp2_with fail
        refine (pat165 _).mono ?_
        rintro e w4 ⟨A4, c4, rfl, hc4, hC4, hb4⟩
        have HX4 := Aside0.mk (HX.out.below hb4 HX.out.lt)
        have HB4 := Aside0.mk (HB.out.trans (hb4.mono HB.out.size))
        have HC4 := Aside0.mk hC4
        clear hb4 hC4 HX HB
        go_wp2_with fail
        have hpl := pre13_length t HTA.out 6 (by omega)
        refine (appendPat' w4 gt 95 z95 (pre13 t 6) A4 c4 [1, 1, 1, 1, 1] false 45 5 (by rw [hpl]; rfl) rfl HX4.out z95_length (by omega) (by omega) 5 rfl HC4.out hc4 (by decide) (by omega) (by omega)).mono ?_
        rintro e w5 ⟨rfl, hx, hu⟩
        have HX5 := Aside0.mk hx
        have HB5 := Aside0.mk (HB4.out.trans (hu.below hge HB4.out.size))
        clear hx hu HX4 HB4 HC4 hc4 hpl hlt hi
        go_wp2
        go_loopw [17, 20] (fun pv v wr => ∃ i : Nat, i ≤ 6 ∧ v = .int .i64 (7 + (i : Int)) ∧ pv = .int .i64 (50 + 7 * (i : Int)) ∧ Aside0 (Blk wr gt 4 (bools (put z95 (mid13 t i))).toArray) ∧ Aside0 (Below w.heap.size w wr)) (fun _ v _ => 13 - (intOf v).toNat)
        case atStart => exact ⟨0, by omega, rfl, rfl, ⟨by have := HX5.out; simpa [mid13, digs_] using this⟩, HB5⟩
        case round =>
          obtain ⟨i, hi, rfl, rfl, HX, HB⟩ := hrel
          clear HX5 HB5
          by_cases hlt : i < 6
          · have d1 : decide (7 + (i : Int) ≤ 12) = true := decide_eq_true (by omega)
            have hit : 7 + i < t.size := by have := HTS.out; omega
            obtain ⟨b, hbt, hb48, hb57, hbd⟩ := dgt_at t 13 HTS.out HTA.out (7 + i) (by omega) hit
            have HBD := Aside0.mk hbd
            clear hbd
            go_wp2_with fail
            refine (pats164 _ (b - 48) (by omega) (by omega)).mono ?_
            rintro e w6 ⟨ad, c6, A6, c7, rfl, hcell, hc7, hC7, hb6⟩
            have HX6 := Aside0.mk (HX.out.below hb6 HX.out.lt)
            have HB6 := Aside0.mk (HB.out.trans (hb6.mono HB.out.size))
            have HC7 := Aside0.mk hC7
            clear hC7 hb6 HX HB
            go_wp2_with fail
            obtain ⟨l1, l2, l3⟩ := lp_facts (b - 48) (by omega) (by omega)
            have hpl := mid13_length t HTA.out i (by omega)
            refine (appendPat' w6 gt 95 z95 (mid13 t i) A6 c7 (lp (b - 48)) true (50 + 7 * (i : Int)) 7 (by rw [hpl]; omega) (by rw [l3 true]; rfl) HX6.out z95_length (by omega) (by omega) 4 l1 HC7.out hc7 l2 (by omega) (by omega)).mono ?_
            rintro e w7 ⟨rfl, hx, hu⟩
            have HX7 := Aside0.mk hx
            have HB7 := Aside0.mk (HB6.out.trans (hu.below hge HB6.out.size))
            clear hx hu HX6 HB6 HC7 hcell l1 l2 l3 hpl
            go_wp2
            go_roundw
            case rel => exact ⟨i + 1, by omega, by go_num, by go_num, ⟨by
              have := HX7.out
              rw [show mid13 t (i + 1) = mid13 t i ++ bars true (lp (b - 48)) by unfold mid13; rw [digs_next, HBD.out]; simp only [List.append_assoc]]
              exact this⟩, HB7⟩
            case measure => simp [intOf]; omega
          · obtain rfl : i = 6 := by omega
            go_wp2_with fail
            refine (pat163 _).mono ?_
            rintro e w6 ⟨A6, c6, rfl, hc6, hC6, hb6⟩
            have HX6 := Aside0.mk (HX.out.below hb6 HX.out.lt)
            have HB6 := Aside0.mk (HB.out.trans (hb6.mono HB.out.size))
            have HC6 := Aside0.mk hC6
            clear hb6 hC6 HX HB
            go_wp2_with fail
            have hpl := mid13_length t HTA.out 6 (by omega)
            refine (appendPat' w6 gt 95 z95 (mid13 t 6) A6 c6 [1, 1, 1] true 92 3 (by rw [hpl]; rfl) rfl HX6.out z95_length (by omega) (by omega) 3 rfl HC6.out hc6 (by decide) (by omega) (by omega)).mono ?_
            rintro e w7 ⟨rfl, hx, hu⟩
            have HX7 := Aside0.mk hx
            have HB7 := Aside0.mk (HB6.out.trans (hu.below hge HB6.out.size))
            clear hx hu HX6 HB6 HC6 hc6 hpl
            go_wp2
            go_ret2
            have hlen := code13_length t HTA.out
            refine ⟨_, rfl, ?_, HB7.out⟩
            have hx' : Blk w7 gt 4 (bools (put z95 (code13 t))).toArray := HX7.out
            rw [put_all _ _ (by rw [hlen, z95_length])] at hx'
            exact Kd.R_mono (R_of_blk hx' hlen (by omega) hge) (fun _ _ => trivial)

set_option maxHeartbeats 4000000 in
set_option maxRecDepth 100000 in
theorem enc13_no (w : World) (mv : Value) (s : ByteArray) (hm : s.size ≤ 2147483647) (h : ∀ t, ¬ Full s 12 t) :
    Calls Tryz.prog 167 #[.agg #[], .string s, mv] w fun e w' => ∃ v x, e = .returned (.tuple #[v, .iface 141 x]) ∧ Below w.heap.size w w' := by
  have hsplit : (∃ (e : (s.size : Int) = 12), ¬ AllDig s 12) ∨ (∃ (e : (s.size : Int) = 13), ¬ AllDig s 12) ∨ (∃ (e : (s.size : Int) = 13), AllDig s 12 ∧ dgt s 12 ≠ chk s 12) ∨ ((s.size : Int) ≠ 12 ∧ (s.size : Int) ≠ 13) := by
    by_cases hA : (s.size : Int) = 12
    · exact .inl ⟨hA, fun hd => h _ (.inl ⟨by omega, hd, rfl⟩)⟩
    · by_cases hB : (s.size : Int) = 13
      · by_cases hd : AllDig s 12
        · refine .inr (.inr (.inl ⟨hB, hd, fun hc => h s (.inr ⟨by omega, fun i hi => ?_, hc, rfl⟩)⟩))
          by_cases e : i = 12
          · subst e; rw [hc]; exact (chk_range s 12).2
          · exact hd i (by omega)
        · exact .inr (.inl ⟨hB, hd⟩)
      · exact .inr (.inr (.inr ⟨hA, hB⟩))
  clear h
  rcases hsplit with ⟨hsI, hd⟩ | ⟨hsI, hd⟩ | ⟨hsI, hd, hck⟩ | ⟨hA, hB⟩
  · have HD := Aside0.mk hd
    have HS := Aside0.mk (show s.size = 12 by omega)
    have HFE := methFE
    clear hd
    go_enter Tryz.func167, Tryz.ntmps167
    go_wp2_with fail
    refine (ck160 _ s 12 HS.out (by omega)).mono ?_
    rintro e w1 ⟨hp, hb⟩
    have he : e = .returned (.tuple #[.int .i64 0, .iface 198 (.agg #[.string ⟨#[70, 111, 114, 109, 97, 116, 69, 120, 99, 101, 112, 116, 105, 111, 110]⟩, .nilIface])]) := by
      rcases hp with ⟨h, _⟩ | ⟨_, h⟩
      · exact absurd h HD.out
      · exact h
    subst he
    have HB1 := Aside0.mk ((below_alloc (Below.refl _ w) (.cells #[] 93)).trans (hb.mono (by simp)))
    clear hp hb
    go_wp2_with fail
    refine (errFE _ _).mono ?_
    rintro e w2 ⟨rfl, hb⟩
    have HB2 := Aside0.mk (HB1.out.trans (hb.mono HB1.out.size))
    clear hb HB1
    go_wp2_with (go_at_call 96; refine (newWExc _ _).mono ?_; rintro e w' ⟨x, rfl, hb⟩)
    go_ret2
    exact ⟨_, x, rfl, HB2.out.trans ((below_alloc (Below.refl _ _) _).trans (hb.mono (by simp)) |>.mono HB2.out.size)⟩
  · have HD := Aside0.mk hd
    have HS := Aside0.mk (show s.size = 13 by omega)
    have HFE := methFE
    clear hd
    go_enter Tryz.func167, Tryz.ntmps167
    go_wp2_with fail
    refine (ck161 _ s 12 HS.out (by omega)).mono ?_
    rintro e w1 ⟨hp, hb⟩
    have he : e = .returned (.tuple #[.bool false, .iface 198 (.agg #[.string ⟨#[70, 111, 114, 109, 97, 116, 69, 120, 99, 101, 112, 116, 105, 111, 110]⟩, .nilIface])]) := by
      rcases hp with ⟨h, _⟩ | ⟨_, h⟩
      · exact absurd h HD.out
      · exact h
    subst he
    have HB1 := Aside0.mk ((below_alloc (Below.refl _ w) (.cells #[] 93)).trans (hb.mono (by simp)))
    clear hp hb
    go_wp2_with fail
    refine (errFE _ _).mono ?_
    rintro e w2 ⟨rfl, hb⟩
    have HB2 := Aside0.mk (HB1.out.trans (hb.mono HB1.out.size))
    clear hb HB1
    go_wp2_with (go_at_call 96; refine (newWExc _ _).mono ?_; rintro e w' ⟨x, rfl, hb⟩)
    go_ret2
    exact ⟨_, x, rfl, HB2.out.trans ((below_alloc (Below.refl _ _) _).trans (hb.mono (by simp)) |>.mono HB2.out.size)⟩
  · have HD := Aside0.mk hd
    have HCK := Aside0.mk hck
    have HS := Aside0.mk (show s.size = 13 by omega)
    have HFE := methFE
    clear hd hck
    go_enter Tryz.func167, Tryz.ntmps167
    go_wp2_with fail
    refine (ck161 _ s 12 HS.out (by omega)).mono ?_
    rintro e w1 ⟨hp, hb⟩
    have he : e = .returned (.tuple #[.bool false, .nilIface]) := by
      rcases hp with ⟨_, h⟩ | ⟨h, _⟩
      · rw [h, decide_eq_false HCK.out]
      · exact absurd HD.out h
    subst he
    have HB1 := Aside0.mk ((below_alloc (Below.refl _ w) (.cells #[] 93)).trans (hb.mono (by simp)))
    clear hp hb HFE
    go_wp2_with (go_at_call 96; refine (newWExc _ _).mono ?_; rintro e w' ⟨x, rfl, hb⟩)
    go_ret2
    exact ⟨_, x, rfl, HB1.out.trans ((below_alloc (Below.refl _ _) _).trans (hb.mono (by simp)) |>.mono HB1.out.size)⟩
  · have d1 : ((s.size : Int) == 12) = false := beq_eq_false_iff_ne.2 hA
    have d2 : ((s.size : Int) == 13) = false := beq_eq_false_iff_ne.2 hB
    clear hA hB
    go_enter Tryz.func167, Tryz.ntmps167
    go_wp2_with (go_at_call 96; refine (newWExc _ _).mono ?_; rintro e w' ⟨x, rfl, hb⟩)
    go_ret2
    exact ⟨_, x, rfl, (below_alloc (below_alloc (Below.refl _ w) (.cells #[] 93)) _).trans (hb.mono (by simp; omega))⟩

def dS (m : Nat) : ByteArray := strOfNums [bt (dW m) 3, bt (dW m) 2, bt (dW m) 1, bt (dW m) 0]
theorem dS_facts (m : Nat) (h : m < 10) : (dS m).size = 4 ∧ bF (dS m) 0 4 false = bars false (lg (m + 10)) := by
  have : ∀ m : Fin 10, (dS m.val).size = 4 ∧ bF (dS m.val) 0 4 false = bars false (lg (m.val + 10)) := by decide +kernel
  exact this ⟨m, h⟩
/-- odDigit by the set B. -/
theorem dig68B (w0 w : World) (v : Value) (l : List Bool) (b : Int) (h0 : 48 ≤ b) (h9 : b ≤ 57) (hl : l.length ≤ 900000) (hB : Below w0.heap.size w0 w) (hr : Kd.R Kd.bool 4 w w0.heap.size (fun _ => True) v l) :
    Calls Tryz.prog 68 #[v, .int .u8 b, .int .u8 66] w fun e w' => ∃ v', e = .returned v' ∧ Kd.R Kd.bool 4 w' w0.heap.size (fun _ => True) v' (l ++ bars false (lg (b - 48 + 10).toNat)) ∧ Below w0.heap.size w0 w' := by
  obtain ⟨m, hm⟩ : ∃ m : Nat, b = 48 + (m : Int) := ⟨(b - 48).toNat, by omega⟩
  have hm10 : m < 10 := by omega
  subst hm
  obtain ⟨h1, h2, _⟩ := dW_facts m hm10
  obtain ⟨h3, h4⟩ := dS_facts m hm10
  have he := odBarsE (dS m) l false (by omega) hl
  rw [h3, h4] at he
  have hd : Ev (fun k => F.spec_odDigit.f k l (48 + (m : Int)) 66) (l ++ bars false (lg (m + 10))) := by
    refine Ev.congr (f := fun k => (F.spec_odBars.f k l (dS m) false).bind fun t => some t) (fun k => ?_) (he.bind (Ev.now _))
    unfold F.spec_odDigit.f
    rw [h1]
    simp only [Option.bind_some]
    rw [if_pos trivial, if_pos (by omega), if_pos (by omega), if_pos (by omega), if_pos (by omega)]
    rfl
  obtain ⟨k, hk⟩ := hd.rounds
  refine (F.spec_odDigit.calls k (fun _ => True) v l _ 66 _ w0 w hB hr hk).mono ?_
  rintro e w' ⟨v', rfl, h1, h2, _⟩
  refine ⟨v', rfl, ?_, h2⟩
  rw [show (48 + (m : Int) - 48 + 10).toNat = m + 10 by omega]
  exact Kd.R_mono h1 (fun _ _ => trivial)
def sets13 (m : Nat) : ByteArray := [(⟨#[65, 65, 65, 65, 65, 65]⟩ : ByteArray), ⟨#[65, 65, 66, 65, 66, 66]⟩, ⟨#[65, 65, 66, 66, 65, 66]⟩, ⟨#[65, 65, 66, 66, 66, 65]⟩, ⟨#[65, 66, 65, 65, 66, 66]⟩, ⟨#[65, 66, 66, 65, 65, 66]⟩, ⟨#[65, 66, 66, 66, 65, 65]⟩, ⟨#[65, 66, 65, 66, 65, 66]⟩, ⟨#[65, 66, 65, 66, 66, 65]⟩, ⟨#[65, 66, 66, 65, 66, 65]⟩].getD m ⟨#[]⟩
theorem sets13_facts (m : Nat) (h : m < 10) : F.spec_odSets.f (48 + (m : Int)) = some (sets13 m) ∧ (sets13 m).size = 6 ∧ ∀ k : Fin 6, bt (sets13 m) (k.val : Nat) = if par (m : Int) k.val then 66 else 65 := by
  have : ∀ m : Fin 10, F.spec_odSets.f (48 + ((m.val : Nat) : Int)) = some (sets13 m.val) ∧ (sets13 m.val).size = 6 ∧ ∀ k : Fin 6, bt (sets13 m.val) (k.val : Nat) = if par ((m.val : Nat) : Int) k.val then 66 else 65 := by decide +kernel
  exact this ⟨m, h⟩

theorem bt_ext (s : ByteArray) (a c i : Nat) (hc : c ≤ s.size) (hi : a + i < c) : bt (s.extract a c) i = bt s ((a + i : Nat) : Int) := by
  have h1 : i < (s.extract a c).size := by rw [ByteArray.size_extract]; omega
  rw [← bt_get _ _ h1, ← bt_get s (a + i) (by omega)]
  congr 2
  simp [ByteArray.getElem_extract]
set_option maxHeartbeats 4000000 in
set_option maxRecDepth 100000 in
theorem mod13 (w : World) (t : ByteArray) (hts : t.size = 13) (hta : AllDig t 13) :
    Calls Tryz.prog 44 #[.int .i64 7, .string t] w fun e w' => ∃ v, e = .returned v ∧ Kd.R Kd.bool 4 w' w.heap.size (fun _ => True) v (code13 t) ∧ Below w.heap.size w w' := by
  have HTS := Aside0.mk hts
  have HTA := Aside0.mk hta
  have hsi : (t.size : Int) = 13 := by omega
  have h0t : 0 < t.size := by omega
  obtain ⟨b0, hbt0, hb048, hb057, hbd0⟩ := dgt_at t 13 hts hta 0 (by omega) h0t
  obtain ⟨m, hm⟩ : ∃ m : Nat, b0 = 48 + (m : Int) := ⟨(b0 - 48).toNat, by omega⟩
  have hm10 : m < 10 := by omega
  obtain ⟨hst, hss, hsb⟩ := sets13_facts m hm10
  rw [← hm] at hst
  have HST := Aside0.mk hst
  have HSS := Aside0.mk hss
  have HSB := Aside0.mk hsb
  have HD0 := Aside0.mk (show dgt t 0 = m by rw [hbd0]; omega)
  clear hts hta hst hss hsb hbd0 hm
  go_enter Tryz.func44, Tryz.ntmps44
  go_wp2_with fail
  refine (bars66 w _ _ ⟨#[49, 49, 49]⟩ [] true (bars true [1, 1, 1]) (by decide +kernel) (by decide) (by simp) (Below.refl _ _) (Kd.R_nil _ _ _ _ _)).mono ?_
  rintro e w1 ⟨v1, rfl, hr1, hb1⟩
  have HR1 := Aside0.mk hr1
  have HB1 := Aside0.mk hb1
  clear hr1 hb1
  go_wp2_with fail
  go_region_with (go_at_call 69; refine (F.spec_odSets.calls b0 (sets13 m) _ HST.out).mono ?_; rintro e w' ⟨rfl, hb2⟩)
  have HR2 := Aside0.mk (Kd.R_below (by first | exact HR1.out | exact Kd.R_drew HR1.out | exact Kd.R_drewN HR1.out _) hb2)
  have HB2 := Aside0.mk (HB1.out.trans ((show Below w1.heap.size w1 _ from ⟨hb2.os, hb2.tape, hb2.output, hb2.size, hb2.block⟩).mono HB1.out.size))
  clear hb2
  go_wp2_with fail
  obtain ⟨lf, hlf⟩ : ∃ x, t.extract 1 7 = x := ⟨_, rfl⟩
  have HLF := Aside0.mk hlf
  have HLS := Aside0.mk (show lf.size = 6 by rw [← hlf, ByteArray.size_extract]; have := HTS.out; omega)
  obtain ⟨st, hst⟩ : ∃ x, sets13 m = x := ⟨_, rfl⟩
  rw [hst] at HSS HSB
  rw [hlf, hst]
  clear hlf hst
  go_loopw [5, 52] (fun rv v wr => ∃ i : Nat, i ≤ 6 ∧ v = .int .i64 i ∧ Aside0 (Kd.R Kd.bool 4 wr w.heap.size (fun _ => True) rv (pre13 t i)) ∧ Aside0 (Below w.heap.size w wr)) (fun _ v _ => 6 - (intOf v).toNat)
  case atStart => exact ⟨0, by omega, rfl, ⟨by have := HR2.out; simpa [pre13, left13] using this⟩, HB2⟩
  case round =>
    obtain ⟨i, hi, rfl, HR, HB⟩ := hrel
    clear HR1 HB1 HR2 HB2
    by_cases hlt : i < 6
    · have d1 : decide ((i : Int) < 6) = true := decide_eq_true (by omega)
      have hil : i < lf.size := by have := HLS.out; omega
      obtain ⟨b, hb⟩ : ∃ b : Int, ((lf[i]'hil).toNat : Int) = b := ⟨_, rfl⟩
      have hbb : 48 ≤ b ∧ b ≤ 57 ∧ dgt t (1 + i) = b - 48 := by
        have hit : 1 + i < t.size := by have := HTS.out; omega
        obtain ⟨b', h1, h2, h3, h4⟩ := dgt_at t 13 HTS.out HTA.out (1 + i) (by omega) hit
        have e : b = b' := by
          rw [← hb, ← h1, bt_get lf i hil, bt_get t (1 + i) hit, ← HLF.out, bt_ext t 1 7 i (by have := HTS.out; omega) (by omega)]
        rw [e]; exact ⟨h2, h3, h4⟩
      obtain ⟨hb48, hb57, hbd⟩ := hbb
      have HBD := Aside0.mk hbd
      have hsi2 : i < st.size := by have := HSS.out; omega
      have hsb0 : ((st[i]'hsi2).toNat : Int) = if par (m : Int) i then 66 else 65 := by rw [bt_get st i hsi2]; exact HSB.out ⟨i, hlt⟩
      have hpl : (pre13 t i).length ≤ 900000 := by rw [pre13_length t HTA.out i (by omega)]; omega
      clear hbd
      obtain ⟨P, hP⟩ : ∃ P, par (m : Int) i = P := ⟨_, rfl⟩
      cases P
      · have hsv : ((st[i]'hsi2).toNat : Int) = 65 := by rw [hsb0, hP]; rfl
        have HPR := Aside0.mk hP
        clear hsb0 hP
        go_wp2_with fail
        go_region_with (go_at_call 68; refine (dig68 w _ _ (pre13 t i) b 65 false (Or.inl ⟨rfl, rfl⟩) (by omega) (by omega) (by assumption) ?side1 ?side2).mono ?_; (case side1 => repeat (first | exact HB.out | apply below_alloc | apply pw_below_drewN | apply below_drew1)); (case side2 => repeat (first | exact HR.out | (with_reducible refine Kd.R_drewN ?_ _) | (with_reducible refine Kd.R_drew ?_))); rintro e w' ⟨v', rfl, hr2, hb2⟩)
        all_goals
          have HR2 := Aside0.mk hr2
          have HB2 := Aside0.mk hb2
          clear hr2 hb2 hpl
          go_wp2
          go_roundw
          case rel => exact ⟨i + 1, by omega, by go_num, ⟨by
            have hlx : lix t i = (b - 48).toNat := by unfold lix; rw [HD0.out, HPR.out, HBD.out]; simp; try omega
            have := HR2.out
            rw [show lp (b - 48) = lg (b - 48).toNat by unfold lg; rw [if_pos (by omega), show (((b - 48).toNat : Nat) : Int) = b - 48 by omega]] at this
            rw [show pre13 t (i + 1) = pre13 t i ++ bars false (lg (b - 48).toNat) by unfold pre13; rw [left13_next, hlx]; simp only [List.append_assoc]]
            exact this⟩, HB2⟩
          case measure => simp [intOf]; omega
      · have hsv : ((st[i]'hsi2).toNat : Int) = 66 := by rw [hsb0, hP]; rfl
        have HPR := Aside0.mk hP
        clear hsb0 hP
        go_wp2_with fail
        go_region_with (go_at_call 68; refine (dig68B w _ _ (pre13 t i) b (by omega) (by omega) (by assumption) ?side1 ?side2).mono ?_; (case side1 => repeat (first | exact HB.out | apply below_alloc | apply pw_below_drewN | apply below_drew1)); (case side2 => repeat (first | exact HR.out | (with_reducible refine Kd.R_drewN ?_ _) | (with_reducible refine Kd.R_drew ?_))); rintro e w' ⟨v', rfl, hr2, hb2⟩)
        all_goals
          have HR2 := Aside0.mk hr2
          have HB2 := Aside0.mk hb2
          clear hr2 hb2 hpl
          go_wp2
          go_roundw
          case rel => exact ⟨i + 1, by omega, by go_num, ⟨by
            have hlx : lix t i = (b - 48 + 10).toNat := by unfold lix; rw [HD0.out, HPR.out, HBD.out]; simp; try omega
            have := HR2.out
            skip
            rw [show pre13 t (i + 1) = pre13 t i ++ bars false (lg (b - 48 + 10).toNat) by unfold pre13; rw [left13_next, hlx]; simp only [List.append_assoc]]
            exact this⟩, HB2⟩
          case measure => simp [intOf]; omega
    · obtain rfl : i = 6 := by omega
      have hls : (lf.size : Int) = 6 := by have := HLS.out; omega
      go_wp2_with fail
      refine (bars66 w wr _ ⟨#[49, 49, 49, 49, 49]⟩ (pre13 t 6) false (bars false [1, 1, 1, 1, 1]) (by decide +kernel) (by decide) (by rw [pre13_length t HTA.out 6 (by omega)]; omega) HB.out HR.out).mono ?_
      rintro e w2 ⟨v2, rfl, hr2, hb2⟩
      have HR2 := Aside0.mk hr2
      have HB2 := Aside0.mk hb2
      clear hr2 hb2 hlt hi
      go_wp2_with fail
      go_loopw [5, 11] (fun rv v wr => ∃ i : Nat, i ≤ 6 ∧ v = .int .i64 (7 + (i : Int)) ∧ Aside0 (Kd.R Kd.bool 4 wr w.heap.size (fun _ => True) rv (mid13 t i)) ∧ Aside0 (Below w.heap.size w wr)) (fun _ v _ => 13 - (intOf v).toNat)
      case atStart => exact ⟨0, by omega, rfl, ⟨by have := HR2.out; simpa [mid13, digs_] using this⟩, HB2⟩
      case round =>
        clear HR HB
        obtain ⟨i, hi, rfl, HR, HB⟩ := hrel
        clear HR2 HB2
        by_cases hlt : i < 6
        · have d1 : decide (7 + (i : Int) < 13) = true := decide_eq_true (by omega)
          have hit : 7 + i < t.size := by have := HTS.out; omega
          obtain ⟨b, hbt, hb48, hb57, hbd⟩ := dgt_at t 13 HTS.out HTA.out (7 + i) (by omega) hit
          have HBD := Aside0.mk hbd
          clear hbd
          have hpl : (mid13 t i).length ≤ 900000 := by rw [mid13_length t HTA.out i (by omega)]; omega
          go_wp2_with fail
          refine (dig68 w _ _ (mid13 t i) b 67 true (Or.inr ⟨rfl, rfl⟩) (by omega) (by omega) (by assumption) HB.out HR.out).mono ?_
          rintro e w' ⟨v', rfl, hr2, hb2⟩
          have HR2 := Aside0.mk hr2
          have HB2 := Aside0.mk hb2
          clear hr2 hb2 hpl
          go_wp2
          go_roundw
          case rel => exact ⟨i + 1, by omega, by go_num, ⟨by
            rw [show mid13 t (i + 1) = mid13 t i ++ bars true (lp (b - 48)) by unfold mid13; rw [digs_next, HBD.out]; simp only [List.append_assoc]]
            exact HR2.out⟩, HB2⟩
          case measure => simp [intOf]; omega
        · obtain rfl : i = 6 := by omega
          go_wp2_with fail
          refine (bars66 w _ _ ⟨#[49, 49, 49]⟩ (mid13 t 6) true (bars true [1, 1, 1]) (by decide +kernel) (by decide) (by rw [mid13_length t HTA.out 6 (by omega)]; omega) HB.out HR.out).mono ?_
          rintro e w2 ⟨v2, rfl, hr2, hb2⟩
          have HR2 := Aside0.mk hr2
          have HB2 := Aside0.mk hb2
          clear hr2 hb2
          go_wp2
          go_ret
          exact ⟨_, rfl, HR2.out, HB2.out⟩

theorem encode_none13 (w : World) (v m : Value) (t : ByteArray) (f wd ht : Int) (h0 : t.size = 0) :
    Calls Tryz.prog 94 #[v, .string t, .int .i64 f, .int .i64 wd, .int .i64 ht, m] w fun e w' => (∃ x, e = .returned (.tuple #[.pointer none, .iface 141 x])) ∧ Below w.heap.size w w' := by
  have hlen : (t.size : Int) = 0 := by omega
  clear h0
  go_enter Tryz.func94, Tryz.ntmps94
  go_wp2_with (go_at_call 96; refine (newWExc _ _).mono ?_; rintro e w' ⟨x, rfl, hb⟩)
  go_ret2
  exact ⟨⟨_, rfl⟩, (below_alloc (Below.refl _ w) _).trans (hb.mono (by simp))⟩
set_option maxHeartbeats 2000000 in
set_option maxRecDepth 100000 in
theorem odWrite_ean13_none (w : World) (text : ByteArray) (wd mg : Int) (h0 : text.size = 0) :
    Calls Tryz.prog 15 #[.int .i64 7, .string text, .int .i64 wd, .int .i64 mg] w fun e w' => e = .returned (.tuple #[.slice none 0 0, .bool false]) ∧ Below w.heap.size w w' := by
  have hmm := @run_makeMap Tryz.prog
  have H0 := Aside0.mk h0
  clear h0
  go_enter Tryz.func15, Tryz.ntmps15
  go_wp2_with fail
  refine (writer_ean13 w).mono ?_
  rintro e w1 ⟨rfl, hw1⟩
  have hi := run_ins w1 (.iface 3 (.int .i64 mg))
  have hq := methE w.heap.size
  have hb1 : Below w.heap.size w w1 := by rw [hw1]; exact below_alloc (Below.refl _ _) _
  have hg : Blk w1 w.heap.size 106 #[.iface 93 (.agg #[]), .int .i64 9] := by rw [hw1]; exact Blk.new _ _ _
  have HB1 := Aside0.mk hb1
  have HG := Aside0.mk hg
  clear hw1 hb1 hg
  go_wp2_with fail
  have hma : Below w1.heap.size w1 (w1.alloc (.map #[⟨.int .i64 5, .iface 3 (.int .i64 mg), 0⟩] 1)) := below_alloc (Below.refl _ _) _
  refine (encode_none13 _ _ _ text _ _ _ H0.out).mono ?_
  rintro e w2 ⟨⟨x, rfl⟩, hb2⟩
  have HB2 := Aside0.mk (HB1.out.trans ((hma.mono HB1.out.size).trans (hb2.mono (Nat.le_trans HB1.out.size hma.size))))
  clear hma hb2 hi hmm hq
  go_wp2
  go_ret2
  exact ⟨rfl, HB2.out⟩

set_option maxHeartbeats 2000000 in
set_option maxRecDepth 100000 in
theorem odc7_bad (w : World) (s : ByteArray) (h1 : ¬ (s.size = 12 ∧ AllDig s 12)) (h2 : ¬ (s.size = 13 ∧ AllDig s 13)) :
    Calls Tryz.prog 40 #[.int .i64 7, .string s] w fun e w' => e = .returned (.tuple #[.string ⟨#[]⟩, .bool false]) ∧ Below w.heap.size w w' := by
  have T1 := Aside0.mk (fun W => digs63 W s 12 12 rfl (by omega) false (by simp only [Bool.false_eq_true, false_iff]; exact h1))
  have T2 := Aside0.mk (fun W => digs63 W s 13 13 rfl (by omega) false (by simp only [Bool.false_eq_true, false_iff]; exact h2))
  clear h1 h2
  go_enter Tryz.func40, Tryz.ntmps40
  go_wp2_with fail
  refine (T1.out _).mono ?_
  rintro e w1 ⟨rfl, ⟨n1, rfl⟩⟩
  go_wp2_with fail
  refine (T2.out _).mono ?_
  rintro e w2 ⟨rfl, ⟨n2, rfl⟩⟩
  go_wp2
  go_ret2
  exact ⟨rfl, (show Drawn0 w _ from by first | exact ⟨_, rfl⟩ | (repeat (first | exact Drawn0.refl _ | apply Drawn0.step))).below⟩
set_option maxHeartbeats 2000000 in
set_option maxRecDepth 100000 in
theorem odc7_own (w : World) (s : ByteArray) (h1 : s.size = 12) (h2 : AllDig s 12) :
    Calls Tryz.prog 40 #[.int .i64 7, .string s] w fun e w' => e = .returned (.tuple #[.string (ckText s 12), .bool true]) ∧ Below w.heap.size w w' := by
  have T1 := Aside0.mk (fun W => digs63 W s 12 12 rfl (by omega) true (by simp only [true_iff]; exact ⟨h1, h2⟩))
  have T3 := Aside0.mk (fun W => ck64 W (s.extract 0 12) 12 (by rw [ByteArray.size_extract]; omega) (by omega) ((allDig_extract s 12 (by omega)).2 h2))
  rw [chk_extract s 12 (by omega)] at T3
  have HS := Aside0.mk h1
  have hsi : (s.size : Int) = 12 := by omega
  clear h1 h2
  go_enter Tryz.func40, Tryz.ntmps40
  go_wp2_with fail
  refine (T1.out _).mono ?_
  rintro e w1 ⟨rfl, ⟨n1, rfl⟩⟩
  go_wp2_with fail
  refine (T3.out _).mono ?_
  rintro e w2 ⟨rfl, hb2⟩
  have HB2 := Aside0.mk ((show Drawn0 w _ from ⟨_, rfl⟩).below.trans (hb2.mono (by simp)))
  clear hb2
  obtain ⟨own, hown⟩ : ∃ x, s.extract 0 12 = x := ⟨_, rfl⟩
  obtain ⟨ck, hck⟩ : ∃ x : ByteArray, (⟨#[UInt8.ofNat (48 + chk s 12).toNat]⟩ : ByteArray) = x := ⟨_, rfl⟩
  have hos : own.size = 12 := by rw [← hown, ByteArray.size_extract]; have := HS.out; omega
  have hcs : ck.size = 1 := by rw [← hck]; rfl
  have c9 : own.size + ck.size ≤ 9223372036854775807 := by omega
  have c9b0 := eq_true c9
  have c9b1 : decide (own.size + ck.size ≤ 9223372036854775807) = true := decide_eq_true c9
  have c9b2 : (9223372036854775807 < own.size + ck.size) = False := eq_false (Nat.not_lt.2 c9)
  have HW := Aside0.mk (show ckText s 12 = own ++ ck by unfold ckText; rw [hown, hck])
  rw [hown, hck]
  clear hown hck hos hcs
  go_wp2_with fail
  first | go_quiet (fail) | skip
  all_goals try go_wp2
  go_ret2
  exact ⟨by rw [HW.out]; rfl, HB2.out.trans ((show Drawn0 w2 _ from ⟨_, rfl⟩).below.mono HB2.out.size)⟩
set_option maxHeartbeats 2000000 in
set_option maxRecDepth 100000 in
theorem odc7_all (w : World) (s : ByteArray) (h1 : s.size = 13) (h2 : AllDig s 13) :
    Calls Tryz.prog 40 #[.int .i64 7, .string s] w fun e w' => e = .returned (.tuple #[.string (ckText s 12), .bool (decide (dgt s 12 = chk s 12))]) ∧ Below w.heap.size w w' := by
  have h7 : AllDig s 12 := fun i hi => h2 i (by omega)
  have T1 := Aside0.mk (fun W => digs63 W s 12 12 rfl (by omega) false (by simp only [Bool.false_eq_true, false_iff]; omega))
  have T2 := Aside0.mk (fun W => digs63 W s 13 13 rfl (by omega) true (by simp only [true_iff]; exact ⟨h1, h2⟩))
  have T3 := Aside0.mk (fun W => ck64 W (s.extract 0 12) 12 (by rw [ByteArray.size_extract]; omega) (by omega) ((allDig_extract s 12 (by omega)).2 h7))
  rw [chk_extract s 12 (by omega)] at T3
  have HS := Aside0.mk h1
  have HA := Aside0.mk h2
  have hsi : (s.size : Int) = 13 := by omega
  clear h1 h2 h7
  go_enter Tryz.func40, Tryz.ntmps40
  go_wp2_with fail
  refine (T1.out _).mono ?_
  rintro e w1 ⟨rfl, ⟨n1, rfl⟩⟩
  go_wp2_with fail
  refine (T2.out _).mono ?_
  rintro e w2 ⟨rfl, ⟨n2, rfl⟩⟩
  go_wp2_with fail
  refine (T3.out _).mono ?_
  rintro e w2 ⟨rfl, hb2⟩
  have HB2 := Aside0.mk ((show Drawn0 w _ from by first | exact ⟨_, rfl⟩ | exact ⟨_, World.drewN_drewN _ _ _⟩).below.trans (hb2.mono (by simp)))
  clear hb2
  obtain ⟨own, hown⟩ : ∃ x, s.extract 0 12 = x := ⟨_, rfl⟩
  obtain ⟨ck, hck⟩ : ∃ x : ByteArray, (⟨#[UInt8.ofNat (48 + chk s 12).toNat]⟩ : ByteArray) = x := ⟨_, rfl⟩
  have hos : own.size = 12 := by rw [← hown, ByteArray.size_extract]; have := HS.out; omega
  have hcs : ck.size = 1 := by rw [← hck]; rfl
  have c9 : own.size + ck.size ≤ 9223372036854775807 := by omega
  have c9b0 := eq_true c9
  have c9b1 : decide (own.size + ck.size ≤ 9223372036854775807) = true := decide_eq_true c9
  have c9b2 : (9223372036854775807 < own.size + ck.size) = False := eq_false (Nat.not_lt.2 c9)
  have HCK := Aside0.mk hck
  have HW := Aside0.mk (show ckText s 12 = own ++ ck by unfold ckText; rw [hown, hck])
  rw [hown, hck]
  clear hown hck hos hcs
  go_wp2_with fail
  first | go_quiet (fail) | skip
  all_goals try go_wp2
  go_ret2
  refine ⟨?_, HB2.out.trans ((show Drawn0 w2 _ from ⟨_, rfl⟩).below.mono HB2.out.size)⟩
  rw [HW.out, ← eq_last s 12 HS.out (HA.out 12 (by omega)), HCK.out]
  rfl

theorem digs_congr (a b : ByteArray) (p : Nat) (c : Bool) (n : Nat) (h : ∀ k < n, dgt a (p + k) = dgt b (p + k)) : digs_ a p c n = digs_ b p c n := by
  induction n with
  | zero => rfl
  | succ n ih => rw [digs_next, digs_next, ih (fun k hk => h k (by omega)), h n (by omega)]
theorem left13_congr (a b : ByteArray) (h0 : dgt a 0 = dgt b 0) (n : Nat) (h : ∀ k < n, dgt a (1 + k) = dgt b (1 + k)) : left13 a n = left13 b n := by
  induction n with
  | zero => rfl
  | succ n ih => rw [left13_next, left13_next, ih (fun k hk => h k (by omega))]; unfold lix; rw [h n (by omega), h0]
theorem code13_congr (a b : ByteArray) (h : ∀ i < 13, dgt a i = dgt b i) : code13 a = code13 b := by
  unfold code13 mid13 pre13
  rw [left13_congr a b (h 0 (by omega)) 6 (fun k hk => h _ (by omega)), digs_congr a b 7 true 6 (fun k hk => h _ (by omega))]
theorem code13_full {s t : ByteArray} (h : Full s 12 t) : code13 t = code13 (ckText s 12) := by
  rcases h with ⟨h1, h2, rfl⟩ | ⟨h1, h2, h3, rfl⟩
  · rfl
  · refine code13_congr _ _ (fun i hi => ?_)
    by_cases e : i = 12
    · subst e; rw [ckText_last t 12 (by omega), h3]
    · rw [ckText_dgt t 12 i (by omega) (by omega)]
theorem code13_first (t : ByteArray) : rdOf false (code13 t) 0 = true := rfl
theorem code13_last (t : ByteArray) (h : AllDig t 13) : rdOf false (code13 t) ((code13 t).length - 1 : Int) = true := by
  rw [code13_length t h]
  unfold rdOf code13
  rw [List.getD_eq_getElem?_getD, List.getElem?_append_right (by rw [mid13_length t h 6 (by omega)]; decide), mid13_length t h 6 (by omega)]
  rfl
theorem short7 (w : World) (s : ByteArray) : Calls Tryz.prog 41 #[.int .i64 7, .string s] w fun e w' => e = .returned (.bool false) ∧ Drawn0 w w' := F.laws_odShort.calls 7 s false w (by unfold F.laws_odShort.f; rw [if_neg (by omega)])

set_option maxHeartbeats 4000000 in
set_option maxRecDepth 100000 in
theorem writ13_bad (w : World) (s u : ByteArray) (hm : s.size ≤ 2147483647) (h : ∀ t, ¬ Full s 12 t) (hc : ∀ W : World, Calls Tryz.prog 40 #[.int .i64 7, .string s] W fun e w' => e = .returned (.tuple #[.string u, .bool false]) ∧ Below W.heap.size W w') :
    Calls Tryz.prog 24 #[.int .i64 7, .string s] w fun e w' => e = .returned (.bool true) ∧ Below w.heap.size w w' := by
  have HC := Aside0.mk hc
  have HW := Aside0.mk (fun W : World => (show Calls Tryz.prog 15 #[.int .i64 7, .string s, .int .i64 0, .int .i64 20] W fun e w' => e = .returned (.tuple #[.slice none 0 0, .bool false]) ∧ Below W.heap.size W w' from by
    by_cases h0 : s.size = 0
    · exact odWrite_ean13_none W s 0 20 h0
    · exact odWrite_ean13_no W s 0 20 (by omega) (by omega) (fun gm W' => enc13_no W' _ s hm h)))
  clear h hc hm
  go_enter Tryz.func24, Tryz.ntmps24
  go_wp2_with fail
  refine (HC.out _).mono ?_
  rintro e w1 ⟨rfl, hb⟩
  have HB1 := Aside0.mk hb
  clear hb
  go_wp2_with fail
  try go_quiet (fail)
  try go_wp2_with fail
  refine (HW.out _).mono ?_
  rintro e w2 ⟨rfl, hb⟩
  have HB2 := Aside0.mk (show Below w.heap.size w w2 from by
    refine HB1.out.trans ?_
    first
    | exact hb.mono HB1.out.size
    | exact (below_drew1' hb).mono HB1.out.size)
  clear hb
  go_wp2
  go_ret
  exact ⟨rfl, HB2.out⟩
set_option maxHeartbeats 4000000 in
set_option maxRecDepth 100000 in
theorem writ13_ok (w : World) (s t : ByteArray) (hm : s.size ≤ 2147483647) (h : Full s 12 t) :
    Calls Tryz.prog 24 #[.int .i64 7, .string s] w fun e w' => e = .returned (.bool true) ∧ Below w.heap.size w w' := by
  have hsm : 12 ≤ s.size ∧ AllDig s 12 := by
    rcases h with ⟨h1, h2, _⟩ | ⟨h1, h2, _⟩
    · exact ⟨by omega, h2⟩
    · exact ⟨by omega, fun i hi => h2 i (by omega)⟩
  obtain ⟨hsm, hd7⟩ := hsm
  have hc : ∀ W : World, Calls Tryz.prog 40 #[.int .i64 7, .string s] W fun e w' => e = .returned (.tuple #[.string (ckText s 12), .bool true]) ∧ Below W.heap.size W w' := by
    intro W
    rcases h with ⟨h1, h2, _⟩ | ⟨h1, h2, h3, _⟩
    · exact odc7_own W s h1 h2
    · have := odc7_all W s h1 h2
      rwa [decide_eq_true h3] at this
  obtain ⟨u, hu⟩ : ∃ u, ckText s 12 = u := ⟨_, rfl⟩
  have hus : u.size = 13 := by rw [← hu]; exact ckText_size s 12 hsm
  have hua : AllDig u 13 := by rw [← hu]; exact ckText_all s 12 hsm hd7
  have hcf := code13_full h
  rw [hu] at hc hcf
  have hlen := code13_length u hua
  have hl8 := code13_last u hua
  obtain ⟨code, hcode⟩ : ∃ code, code13 u = code := ⟨_, rfl⟩
  have HMOD := Aside0.mk (fun W : World => mod13 W u hus hua)
  have hfst := code13_first u
  rw [hcode] at hlen hl8 hcf HMOD hfst
  have HW := Aside0.mk (fun W : World => odRowW_ean13 W s 0 20 code (by omega) (by omega) (by omega) (by omega) (by omega) (by omega) (by omega) (fun gm W' => by
    have := enc13_ok W' (.map (some gm)) s t h
    rwa [hcf] at this))
  have HC := Aside0.mk hc
  have HLEN := Aside0.mk hlen
  have HL8 := Aside0.mk hl8
  have HF := Aside0.mk hfst
  clear h hc hm hsm hd7 hu hus hua hcf hlen hl8 hcode hfst
  obtain ⟨RN, hRN⟩ : ∃ n, (rowOf code 0 20).length = n := ⟨_, rfl⟩
  rw [hRN] at HW
  have HRN := Aside0.mk hRN
  clear hRN
  go_enter Tryz.func24, Tryz.ntmps24
  go_wp2_with fail
  refine (HC.out _).mono ?_
  rintro e w1 ⟨rfl, hb⟩
  have HB1 := Aside0.mk hb
  clear hb
  go_wp2_with fail
  refine (short7 _ s).mono ?_
  rintro e w2 ⟨rfl, ⟨n2, rfl⟩⟩
  have HB2 := Aside0.mk (HB1.out.trans ((show Drawn0 w1 _ from ⟨n2, rfl⟩).below.mono HB1.out.size))
  clear HB1
  go_wp2_with fail
  refine (HW.out _).mono ?_
  rintro e w3 ⟨b, rfl, hbk, hb3⟩
  have HB3 := Aside0.mk (HB2.out.trans (hb3.mono HB2.out.size))
  have HBK := Aside0.mk hbk
  clear hbk hb3 HB2
  go_wp2_with fail
  refine (trim43 w3 b code (by have := HLEN.out; omega) HF.out HL8.out (by have := HLEN.out; omega) RN HRN.out HBK.out).mono ?_
  rintro e w4 ⟨v4, rfl, hv4, hb4⟩
  have HV4 := Aside0.mk hv4
  have HB4 := Aside0.mk (HB3.out.trans (hb4.mono HB3.out.size))
  clear hv4 hb4 HB3 HBK
  go_wp2_with fail
  refine (HMOD.out _).mono ?_
  rintro e w5 ⟨v5, rfl, hr5, hb5⟩
  obtain ⟨A5, c5, rfl, hc5, hC5⟩ := Kd.R_reads hr5
  have hv4 := Kd.V_below HV4.out hb5
  obtain ⟨A4, c4, rfl⟩ := Kd.V_slice hv4
  obtain ⟨_, hc4, hC4⟩ := Kd.V_reads' hv4
  have HC4 := Aside0.mk hC4
  have HC5 := Aside0.mk hC5
  have HB5 := Aside0.mk (HB4.out.trans (hb5.mono HB4.out.size))
  clear hr5 hb5 hv4 hC4 hC5 HV4 HB4
  obtain ⟨kk, hk⟩ := (same_self code (by have := HLEN.out; omega)).rounds
  have HK := Aside0.mk hk
  clear hk
  go_wp2_with fail
  refine (F.spec_ODSame.calls kk A4 c4 code A5 c5 code true _ HC4.out hc4 HC5.out hc5 HK.out).mono ?_
  rintro e w6 ⟨rfl, ⟨n6, rfl⟩⟩
  have HB6 := Aside0.mk (HB5.out.trans ((show Drawn0 w5 _ from ⟨n6, rfl⟩).below.mono HB5.out.size))
  clear HB5
  go_wp2
  go_ret
  exact ⟨rfl, HB6.out⟩
theorem lawEan13 (w : World) (s : ByteArray) :
    Calls Tryz.prog 6 #[.string s] w fun e w' => e = .returned (.bool true) ∧ Below w.heap.size w w' := by
  by_cases hz : s.size ≤ 2147483647
  · have hwr : ∀ W : World, Calls Tryz.prog 24 #[.int .i64 7, .string s] W fun e w' => e = .returned (.bool true) ∧ Below W.heap.size W w' := by
      intro W
      by_cases h : ∃ t, Full s 12 t
      · obtain ⟨t, ht⟩ := h
        exact writ13_ok W s t hz ht
      · have hn : ∀ t, ¬ Full s 12 t := fun t ht => h ⟨t, ht⟩
        by_cases h8 : s.size = 13 ∧ AllDig s 13
        · refine writ13_bad W s (ckText s 12) hz hn (fun W' => ?_)
          have := odc7_all W' s h8.1 h8.2
          rwa [decide_eq_false (fun hc => hn s (.inr ⟨h8.1, h8.2, hc, rfl⟩))] at this
        · exact writ13_bad W s ⟨#[]⟩ hz hn (fun W' => odc7_bad W' s (fun h7 => hn _ (.inl ⟨h7.1, h7.2, rfl⟩)) h8)
    have HW := Aside0.mk hwr
    have hzz : decide ((2147483647 : Int) < (s.size : Int)) = false := decide_eq_false (by omega)
    clear hwr hz
    go_enter Tryz.func6, Tryz.ntmps6
    go_wp2_with (go_at_call 24; refine (HW.out _).mono ?_; rintro e w' ⟨rfl, hb⟩)
    go_ret
    exact ⟨rfl, hb⟩
  · have hzz : decide ((2147483647 : Int) < (s.size : Int)) = true := decide_eq_true (by omega)
    clear hz
    go_enter Tryz.func6, Tryz.ntmps6
    go_wp2
    go_ret
    exact ⟨rfl, Below.refl _ _⟩
theorem walkEan13 (w : World) (s : ByteArray) {p : Prop} (_ : p) :
    Calls Tryz.prog 6 #[.string s] w fun e w' => e = .returned (.bool true) ∧ Below w.heap.size w w' := lawEan13 w s
theorem make_b12 (w : World) : ∃ w1, (Instr.makeSlice 22 (.int .i64 0) (.int .i64 12)).run Tryz.prog w = .ok (.slice (some ⟨w.heap.size, 0, none⟩) 0 12) w1 ∧ w1.ownsRow w.heap.size 5 1 (.slice (some ⟨w.heap.size, 0, none⟩) 0 12) ([] : List Int).length (nums .u8 []) ∧ Below w.heap.size w w1 := by
  obtain ⟨i, hi, hz, hs, hb⟩ := info_parts F.info5
  obtain ⟨w1, h1, h2, h3⟩ := run_makeSlice_owned (P := Tryz.prog) (w := w) w.heap.size 22 5 i (.int .u8 0) 1 Tryz.underlying22 hi hz hs .i64 .i64 12 (by decide) (by rw [hb]; decide) (by simp [maxLen]) (Nat.le_refl _)
  exact ⟨w1, h1, h2, (Below.refl _ _).grown h3 (Nat.le_refl _) (by simp)⟩
theorem lit_reads (W : World) (n : Nat) (hn : n ≤ 100) (cs : Array Value) (hcs : cs = (nums .u8 (List.replicate n 48)).toArray) (fr : Nat × Nat) : ReadsInt (W.alloc (.cells cs 5 fr)) .u8 (some ⟨W.heap.size, 0, none⟩) n (List.replicate n 48) := by
  subst hcs
  refine ⟨List.length_replicate, by omega, fun _ => ⟨_, rfl, fun j hj => ?_⟩⟩
  rw [add_plain]
  have e : (W.alloc (.cells (nums .u8 (List.replicate n 48)).toArray 5 fr)).heap[W.heap.size]? = some (.cells (nums .u8 (List.replicate n 48)).toArray 5 fr) := heap_alloc_new W _
  simp only [World.cell?, e]
  simp [nums, List.getD, hj]
set_option maxHeartbeats 4000000 in
set_option maxRecDepth 100000 in
theorem conv180_0 (w : World) (s u : ByteArray) (c0 c4 c5 c7 : Int) (hs : s.size = 8) (hu : s.extract 1 7 = u) (hus : u.size = 6) (hc0 : bt s 0 = c0) (hc4 : bt u 4 = c4) (hc5 : bt u 5 = c5) (hc7 : bt s 7 = c7) (hf0 : (c5 == 48) = true) :
    Calls Tryz.prog 180 #[.string s] w fun e w' => e = .returned (.string (strOfNums (([] ++ [c0]) ++ bytesOf (u.extract 0 2) ++ [c5] ++ List.replicate 4 48 ++ bytesOf (u.extract 2 5) ++ [c7]))) ∧ Below w.heap.size w w' := by
  obtain ⟨w1, hmk, ho, hb⟩ := make_b12 w
  have kc := fun (W : World) (C : Array Value) (n c : Nat) => Lib.run_convert_bytes_const (P := Tryz.prog) W 22 5 C n c Tryz.underlying22 Tryz.underlying5
  have HO := Aside0.mk ho
  have HB := Aside0.mk hb
  have i0 : ((s[0]'(by omega)).toNat : Int) = c0 := by rw [← hc0]; exact bt_get s 0 (by omega)
  have i7 : ((s[7]'(by omega)).toNat : Int) = c7 := by rw [← hc7]; exact bt_get s 7 (by omega)
  have i4 : ((u[4]'(by omega)).toNat : Int) = c4 := by rw [← hc4]; exact bt_get u 4 (by omega)
  have i5 : ((u[5]'(by omega)).toNat : Int) = c5 := by rw [← hc5]; exact bt_get u 5 (by omega)
  have hsi : (s.size : Int) = 8 := by omega
  have husi : (u.size : Int) = 6 := by omega
  have l1 : (u.extract 0 2).size = 2 := by rw [ByteArray.size_extract]; omega
  have l2 : (u.extract 2 5).size = 3 := by rw [ByteArray.size_extract]; omega
  have l3 : (u.extract 0 3).size = 3 := by rw [ByteArray.size_extract]; omega
  have l4 : (u.extract 3 5).size = 2 := by rw [ByteArray.size_extract]; omega
  have l5 : (u.extract 0 4).size = 4 := by rw [ByteArray.size_extract]; omega
  have l6 : (u.extract 0 5).size = 5 := by rw [ByteArray.size_extract]; omega
  have HL := Aside0.mk (⟨l1, l2, l3, l4, l5, l6⟩ : _ ∧ _ ∧ _ ∧ _ ∧ _ ∧ _)
  clear ho hb hc0 hc4 hc5 hc7 l1 l2 l3 l4 l5 l6
  go_enter Tryz.func180, Tryz.ntmps180
  go_wp2_with (first | ((with_reducible refine gate_builtin (b := .append) (xs := #[.tmp 9, .tmp 12]) rfl ?_); at_builtin; refine print_append_num (w0 := w) w.heap.size rfl (.tmp 9) (.tmp 12) 22 5 .u8 1 rfl Tryz.underlying22 F.info5 (by decide) _ _ _ rfl rfl HO.out HB.out HB.out.size ?aL ?_; (case aL => (obtain ⟨l1, l2, l3, l4, l5, l6⟩ := HL.out; simp [bytesOf_length, l1, l2, l3, l4, l5, l6])); intro v w1 ho hb hg hat; (try clear hcv); have hcv := own_string (P := Tryz.prog) Tryz.underlying22 Tryz.underlying5 Tryz.underlying9 ho; have n0_ := Aside0.mk ho; have n1_ := Aside0.mk hb; clear HO HB; have HO := n0_; have HB := n1_; clear n0_ n1_ ho hb hg; (try clear hat)) | ((with_reducible refine gate_builtin (b := .append) (xs := #[.tmp 37, .tmp 39]) rfl ?_); at_builtin; refine print_append_num (w0 := w) w.heap.size rfl (.tmp 37) (.tmp 39) 22 5 .u8 1 rfl Tryz.underlying22 F.info5 (by decide) _ _ _ rfl rfl HO.out HB.out HB.out.size ?aL ?_; (case aL => (obtain ⟨l1, l2, l3, l4, l5, l6⟩ := HL.out; simp [bytesOf_length, l1, l2, l3, l4, l5, l6])); intro v w1 ho hb hg hat; (try clear hcv); have hcv := own_string (P := Tryz.prog) Tryz.underlying22 Tryz.underlying5 Tryz.underlying9 ho; have n0_ := Aside0.mk ho; have n1_ := Aside0.mk hb; clear HO HB; have HO := n0_; have HB := n1_; clear n0_ n1_ ho hb hg; (try clear hat)) | ((with_reducible refine gate_builtin (b := .append) (xs := #[.tmp 73, .tmp 76]) rfl ?_); at_builtin; refine print_append_num (w0 := w) w.heap.size rfl (.tmp 73) (.tmp 76) 22 5 .u8 1 rfl Tryz.underlying22 F.info5 (by decide) _ _ _ rfl rfl HO.out HB.out HB.out.size ?aL ?_; (case aL => (obtain ⟨l1, l2, l3, l4, l5, l6⟩ := HL.out; simp [bytesOf_length, l1, l2, l3, l4, l5, l6])); intro v w1 ho hb hg hat; (try clear hcv); have hcv := own_string (P := Tryz.prog) Tryz.underlying22 Tryz.underlying5 Tryz.underlying9 ho; have n0_ := Aside0.mk ho; have n1_ := Aside0.mk hb; clear HO HB; have HO := n0_; have HB := n1_; clear n0_ n1_ ho hb hg; (try clear hat)) | ((with_reducible refine gate_builtin (b := .append) (xs := #[.tmp 25, .tmp 27]) rfl ?_); at_builtin; refine print_append_num (w0 := w) w.heap.size rfl (.tmp 25) (.tmp 27) 22 5 .u8 1 rfl Tryz.underlying22 F.info5 (by decide) _ _ _ rfl rfl HO.out HB.out HB.out.size ?aL ?_; (case aL => (obtain ⟨l1, l2, l3, l4, l5, l6⟩ := HL.out; simp [bytesOf_length, l1, l2, l3, l4, l5, l6])); intro v w1 ho hb hg hat; (try clear hcv); have hcv := own_string (P := Tryz.prog) Tryz.underlying22 Tryz.underlying5 Tryz.underlying9 ho; have n0_ := Aside0.mk ho; have n1_ := Aside0.mk hb; clear HO HB; have HO := n0_; have HB := n1_; clear n0_ n1_ ho hb hg; (try clear hat)) | ((with_reducible refine gate_builtin (b := .append) (xs := #[.tmp 81, .tmp 84]) rfl ?_); at_builtin; refine print_append_num (w0 := w) w.heap.size rfl (.tmp 81) (.tmp 84) 22 5 .u8 1 rfl Tryz.underlying22 F.info5 (by decide) _ _ _ rfl rfl HO.out HB.out HB.out.size ?aL ?_; (case aL => (obtain ⟨l1, l2, l3, l4, l5, l6⟩ := HL.out; simp [bytesOf_length, l1, l2, l3, l4, l5, l6])); intro v w1 ho hb hg hat; (try clear hcv); have hcv := own_string (P := Tryz.prog) Tryz.underlying22 Tryz.underlying5 Tryz.underlying9 ho; have n0_ := Aside0.mk ho; have n1_ := Aside0.mk hb; clear HO HB; have HO := n0_; have HB := n1_; clear n0_ n1_ ho hb hg; (try clear hat)) | ((with_reducible refine gate_builtin (b := .append) (xs := #[.tmp 33, .tmp 35]) rfl ?_); at_builtin; refine print_append_str (w0 := w) w.heap.size rfl (.tmp 33) (.tmp 35) 22 9 5 rfl Tryz.underlying22 Tryz.underlying9 F.info5 _ _ _ rfl rfl HO.out HB.out HB.out.size ?aL ?_; (case aL => (obtain ⟨l1, l2, l3, l4, l5, l6⟩ := HL.out; simp [bytesOf_length, l1, l2, l3, l4, l5, l6])); intro v w1 ho hb hg; (try clear hcv); have hcv := own_string (P := Tryz.prog) Tryz.underlying22 Tryz.underlying5 Tryz.underlying9 ho; have n0_ := Aside0.mk ho; have n1_ := Aside0.mk hb; clear HO HB; have HO := n0_; have HB := n1_; clear n0_ n1_ ho hb hg; (try clear hat)) | ((with_reducible refine gate_builtin (b := .append) (xs := #[.tmp 45, .tmp 47]) rfl ?_); at_builtin; refine print_append_str (w0 := w) w.heap.size rfl (.tmp 45) (.tmp 47) 22 9 5 rfl Tryz.underlying22 Tryz.underlying9 F.info5 _ _ _ rfl rfl HO.out HB.out HB.out.size ?aL ?_; (case aL => (obtain ⟨l1, l2, l3, l4, l5, l6⟩ := HL.out; simp [bytesOf_length, l1, l2, l3, l4, l5, l6])); intro v w1 ho hb hg; (try clear hcv); have hcv := own_string (P := Tryz.prog) Tryz.underlying22 Tryz.underlying5 Tryz.underlying9 ho; have n0_ := Aside0.mk ho; have n1_ := Aside0.mk hb; clear HO HB; have HO := n0_; have HB := n1_; clear n0_ n1_ ho hb hg; (try clear hat)) | ((with_reducible refine gate_builtin (b := .append) (xs := #[.tmp 51, .tmp 53]) rfl ?_); at_builtin; refine print_append_str (w0 := w) w.heap.size rfl (.tmp 51) (.tmp 53) 22 9 5 rfl Tryz.underlying22 Tryz.underlying9 F.info5 _ _ _ rfl rfl HO.out HB.out HB.out.size ?aL ?_; (case aL => (obtain ⟨l1, l2, l3, l4, l5, l6⟩ := HL.out; simp [bytesOf_length, l1, l2, l3, l4, l5, l6])); intro v w1 ho hb hg; (try clear hcv); have hcv := own_string (P := Tryz.prog) Tryz.underlying22 Tryz.underlying5 Tryz.underlying9 ho; have n0_ := Aside0.mk ho; have n1_ := Aside0.mk hb; clear HO HB; have HO := n0_; have HB := n1_; clear n0_ n1_ ho hb hg; (try clear hat)) | ((with_reducible refine gate_builtin (b := .append) (xs := #[.tmp 59, .tmp 61]) rfl ?_); at_builtin; refine print_append_str (w0 := w) w.heap.size rfl (.tmp 59) (.tmp 61) 22 9 5 rfl Tryz.underlying22 Tryz.underlying9 F.info5 _ _ _ rfl rfl HO.out HB.out HB.out.size ?aL ?_; (case aL => (obtain ⟨l1, l2, l3, l4, l5, l6⟩ := HL.out; simp [bytesOf_length, l1, l2, l3, l4, l5, l6])); intro v w1 ho hb hg; (try clear hcv); have hcv := own_string (P := Tryz.prog) Tryz.underlying22 Tryz.underlying5 Tryz.underlying9 ho; have n0_ := Aside0.mk ho; have n1_ := Aside0.mk hb; clear HO HB; have HO := n0_; have HB := n1_; clear n0_ n1_ ho hb hg; (try clear hat)) | ((with_reducible refine gate_builtin (b := .append) (xs := #[.tmp 65, .tmp 67]) rfl ?_); at_builtin; refine print_append_str (w0 := w) w.heap.size rfl (.tmp 65) (.tmp 67) 22 9 5 rfl Tryz.underlying22 Tryz.underlying9 F.info5 _ _ _ rfl rfl HO.out HB.out HB.out.size ?aL ?_; (case aL => (obtain ⟨l1, l2, l3, l4, l5, l6⟩ := HL.out; simp [bytesOf_length, l1, l2, l3, l4, l5, l6])); intro v w1 ho hb hg; (try clear hcv); have hcv := own_string (P := Tryz.prog) Tryz.underlying22 Tryz.underlying5 Tryz.underlying9 ho; have n0_ := Aside0.mk ho; have n1_ := Aside0.mk hb; clear HO HB; have HO := n0_; have HB := n1_; clear n0_ n1_ ho hb hg; (try clear hat)) | ((with_reducible refine gate_builtin (b := .append) (xs := #[.tmp 17, .tmp 19]) rfl ?_); at_builtin; refine print_append_str (w0 := w) w.heap.size rfl (.tmp 17) (.tmp 19) 22 9 5 rfl Tryz.underlying22 Tryz.underlying9 F.info5 _ _ _ rfl rfl HO.out HB.out HB.out.size ?aL ?_; (case aL => (obtain ⟨l1, l2, l3, l4, l5, l6⟩ := HL.out; simp [bytesOf_length, l1, l2, l3, l4, l5, l6])); intro v w1 ho hb hg; (try clear hcv); have hcv := own_string (P := Tryz.prog) Tryz.underlying22 Tryz.underlying5 Tryz.underlying9 ho; have n0_ := Aside0.mk ho; have n1_ := Aside0.mk hb; clear HO HB; have HO := n0_; have HB := n1_; clear n0_ n1_ ho hb hg; (try clear hat)) | ((with_reducible refine gate_builtin (b := .append) (xs := #[.tmp 41, .tmp 43]) rfl ?_); at_builtin; refine print_append_row (w0 := w) w.heap.size rfl (.tmp 41) (.tmp 43) 22 5 .u8 1 rfl Tryz.underlying22 F.info5 (by decide) _ _ (List.replicate 4 48) _ _ _ rfl rfl (HO.out.alloc _) (lit_reads _ 4 (by decide) _ rfl _) (HB.out.alloc HB.out.size _) (by simp; exact Nat.le_succ_of_le HB.out.size) ?aL ?_; (case aL => (obtain ⟨l1, l2, l3, l4, l5, l6⟩ := HL.out; simp [bytesOf_length, l1, l2, l3, l4, l5, l6])); intro v w1 ho hb hg hat; (try clear hcv); have hcv := own_string (P := Tryz.prog) Tryz.underlying22 Tryz.underlying5 Tryz.underlying9 ho; have n0_ := Aside0.mk ho; have n1_ := Aside0.mk hb; clear HO HB; have HO := n0_; have HB := n1_; clear n0_ n1_ ho hb hg; (try clear hat)) | ((with_reducible refine gate_builtin (b := .append) (xs := #[.tmp 55, .tmp 57]) rfl ?_); at_builtin; refine print_append_row (w0 := w) w.heap.size rfl (.tmp 55) (.tmp 57) 22 5 .u8 1 rfl Tryz.underlying22 F.info5 (by decide) _ _ (List.replicate 5 48) _ _ _ rfl rfl (HO.out.alloc _) (lit_reads _ 5 (by decide) _ rfl _) (HB.out.alloc HB.out.size _) (by simp; exact Nat.le_succ_of_le HB.out.size) ?aL ?_; (case aL => (obtain ⟨l1, l2, l3, l4, l5, l6⟩ := HL.out; simp [bytesOf_length, l1, l2, l3, l4, l5, l6])); intro v w1 ho hb hg hat; (try clear hcv); have hcv := own_string (P := Tryz.prog) Tryz.underlying22 Tryz.underlying5 Tryz.underlying9 ho; have n0_ := Aside0.mk ho; have n1_ := Aside0.mk hb; clear HO HB; have HO := n0_; have HB := n1_; clear n0_ n1_ ho hb hg; (try clear hat)) | ((with_reducible refine gate_builtin (b := .append) (xs := #[.tmp 69, .tmp 71]) rfl ?_); at_builtin; refine print_append_row (w0 := w) w.heap.size rfl (.tmp 69) (.tmp 71) 22 5 .u8 1 rfl Tryz.underlying22 F.info5 (by decide) _ _ (List.replicate 5 48) _ _ _ rfl rfl (HO.out.alloc _) (lit_reads _ 5 (by decide) _ rfl _) (HB.out.alloc HB.out.size _) (by simp; exact Nat.le_succ_of_le HB.out.size) ?aL ?_; (case aL => (obtain ⟨l1, l2, l3, l4, l5, l6⟩ := HL.out; simp [bytesOf_length, l1, l2, l3, l4, l5, l6])); intro v w1 ho hb hg hat; (try clear hcv); have hcv := own_string (P := Tryz.prog) Tryz.underlying22 Tryz.underlying5 Tryz.underlying9 ho; have n0_ := Aside0.mk ho; have n1_ := Aside0.mk hb; clear HO HB; have HO := n0_; have HB := n1_; clear n0_ n1_ ho hb hg; (try clear hat)) | ((with_reducible refine gate_builtin (b := .append) (xs := #[.tmp 21, .tmp 23]) rfl ?_); at_builtin; refine print_append_row (w0 := w) w.heap.size rfl (.tmp 21) (.tmp 23) 22 5 .u8 1 rfl Tryz.underlying22 F.info5 (by decide) _ _ (List.replicate 4 48) _ _ _ rfl rfl (HO.out.alloc _) (lit_reads _ 4 (by decide) _ rfl _) (HB.out.alloc HB.out.size _) (by simp; exact Nat.le_succ_of_le HB.out.size) ?aL ?_; (case aL => (obtain ⟨l1, l2, l3, l4, l5, l6⟩ := HL.out; simp [bytesOf_length, l1, l2, l3, l4, l5, l6])); intro v w1 ho hb hg hat; (try clear hcv); have hcv := own_string (P := Tryz.prog) Tryz.underlying22 Tryz.underlying5 Tryz.underlying9 ho; have n0_ := Aside0.mk ho; have n1_ := Aside0.mk hb; clear HO HB; have HO := n0_; have HB := n1_; clear n0_ n1_ ho hb hg; (try clear hat)))
  go_ret
  exact ⟨by simp [List.replicate], HB.out⟩

set_option maxHeartbeats 4000000 in
set_option maxRecDepth 100000 in
theorem conv180_1 (w : World) (s u : ByteArray) (c0 c4 c5 c7 : Int) (hs : s.size = 8) (hu : s.extract 1 7 = u) (hus : u.size = 6) (hc0 : bt s 0 = c0) (hc4 : bt u 4 = c4) (hc5 : bt u 5 = c5) (hc7 : bt s 7 = c7) (hf0 : (c5 == 48) = false) (hf1 : (c5 == 49) = true) :
    Calls Tryz.prog 180 #[.string s] w fun e w' => e = .returned (.string (strOfNums (([] ++ [c0]) ++ bytesOf (u.extract 0 2) ++ [c5] ++ List.replicate 4 48 ++ bytesOf (u.extract 2 5) ++ [c7]))) ∧ Below w.heap.size w w' := by
  obtain ⟨w1, hmk, ho, hb⟩ := make_b12 w
  have kc := fun (W : World) (C : Array Value) (n c : Nat) => Lib.run_convert_bytes_const (P := Tryz.prog) W 22 5 C n c Tryz.underlying22 Tryz.underlying5
  have HO := Aside0.mk ho
  have HB := Aside0.mk hb
  have i0 : ((s[0]'(by omega)).toNat : Int) = c0 := by rw [← hc0]; exact bt_get s 0 (by omega)
  have i7 : ((s[7]'(by omega)).toNat : Int) = c7 := by rw [← hc7]; exact bt_get s 7 (by omega)
  have i4 : ((u[4]'(by omega)).toNat : Int) = c4 := by rw [← hc4]; exact bt_get u 4 (by omega)
  have i5 : ((u[5]'(by omega)).toNat : Int) = c5 := by rw [← hc5]; exact bt_get u 5 (by omega)
  have hsi : (s.size : Int) = 8 := by omega
  have husi : (u.size : Int) = 6 := by omega
  have l1 : (u.extract 0 2).size = 2 := by rw [ByteArray.size_extract]; omega
  have l2 : (u.extract 2 5).size = 3 := by rw [ByteArray.size_extract]; omega
  have l3 : (u.extract 0 3).size = 3 := by rw [ByteArray.size_extract]; omega
  have l4 : (u.extract 3 5).size = 2 := by rw [ByteArray.size_extract]; omega
  have l5 : (u.extract 0 4).size = 4 := by rw [ByteArray.size_extract]; omega
  have l6 : (u.extract 0 5).size = 5 := by rw [ByteArray.size_extract]; omega
  have HL := Aside0.mk (⟨l1, l2, l3, l4, l5, l6⟩ : _ ∧ _ ∧ _ ∧ _ ∧ _ ∧ _)
  clear ho hb hc0 hc4 hc5 hc7 l1 l2 l3 l4 l5 l6
  go_enter Tryz.func180, Tryz.ntmps180
  go_wp2_with (first | ((with_reducible refine gate_builtin (b := .append) (xs := #[.tmp 9, .tmp 12]) rfl ?_); at_builtin; refine print_append_num (w0 := w) w.heap.size rfl (.tmp 9) (.tmp 12) 22 5 .u8 1 rfl Tryz.underlying22 F.info5 (by decide) _ _ _ rfl rfl HO.out HB.out HB.out.size ?aL ?_; (case aL => (obtain ⟨l1, l2, l3, l4, l5, l6⟩ := HL.out; simp [bytesOf_length, l1, l2, l3, l4, l5, l6])); intro v w1 ho hb hg hat; (try clear hcv); have hcv := own_string (P := Tryz.prog) Tryz.underlying22 Tryz.underlying5 Tryz.underlying9 ho; have n0_ := Aside0.mk ho; have n1_ := Aside0.mk hb; clear HO HB; have HO := n0_; have HB := n1_; clear n0_ n1_ ho hb hg; (try clear hat)) | ((with_reducible refine gate_builtin (b := .append) (xs := #[.tmp 37, .tmp 39]) rfl ?_); at_builtin; refine print_append_num (w0 := w) w.heap.size rfl (.tmp 37) (.tmp 39) 22 5 .u8 1 rfl Tryz.underlying22 F.info5 (by decide) _ _ _ rfl rfl HO.out HB.out HB.out.size ?aL ?_; (case aL => (obtain ⟨l1, l2, l3, l4, l5, l6⟩ := HL.out; simp [bytesOf_length, l1, l2, l3, l4, l5, l6])); intro v w1 ho hb hg hat; (try clear hcv); have hcv := own_string (P := Tryz.prog) Tryz.underlying22 Tryz.underlying5 Tryz.underlying9 ho; have n0_ := Aside0.mk ho; have n1_ := Aside0.mk hb; clear HO HB; have HO := n0_; have HB := n1_; clear n0_ n1_ ho hb hg; (try clear hat)) | ((with_reducible refine gate_builtin (b := .append) (xs := #[.tmp 73, .tmp 76]) rfl ?_); at_builtin; refine print_append_num (w0 := w) w.heap.size rfl (.tmp 73) (.tmp 76) 22 5 .u8 1 rfl Tryz.underlying22 F.info5 (by decide) _ _ _ rfl rfl HO.out HB.out HB.out.size ?aL ?_; (case aL => (obtain ⟨l1, l2, l3, l4, l5, l6⟩ := HL.out; simp [bytesOf_length, l1, l2, l3, l4, l5, l6])); intro v w1 ho hb hg hat; (try clear hcv); have hcv := own_string (P := Tryz.prog) Tryz.underlying22 Tryz.underlying5 Tryz.underlying9 ho; have n0_ := Aside0.mk ho; have n1_ := Aside0.mk hb; clear HO HB; have HO := n0_; have HB := n1_; clear n0_ n1_ ho hb hg; (try clear hat)) | ((with_reducible refine gate_builtin (b := .append) (xs := #[.tmp 25, .tmp 27]) rfl ?_); at_builtin; refine print_append_num (w0 := w) w.heap.size rfl (.tmp 25) (.tmp 27) 22 5 .u8 1 rfl Tryz.underlying22 F.info5 (by decide) _ _ _ rfl rfl HO.out HB.out HB.out.size ?aL ?_; (case aL => (obtain ⟨l1, l2, l3, l4, l5, l6⟩ := HL.out; simp [bytesOf_length, l1, l2, l3, l4, l5, l6])); intro v w1 ho hb hg hat; (try clear hcv); have hcv := own_string (P := Tryz.prog) Tryz.underlying22 Tryz.underlying5 Tryz.underlying9 ho; have n0_ := Aside0.mk ho; have n1_ := Aside0.mk hb; clear HO HB; have HO := n0_; have HB := n1_; clear n0_ n1_ ho hb hg; (try clear hat)) | ((with_reducible refine gate_builtin (b := .append) (xs := #[.tmp 81, .tmp 84]) rfl ?_); at_builtin; refine print_append_num (w0 := w) w.heap.size rfl (.tmp 81) (.tmp 84) 22 5 .u8 1 rfl Tryz.underlying22 F.info5 (by decide) _ _ _ rfl rfl HO.out HB.out HB.out.size ?aL ?_; (case aL => (obtain ⟨l1, l2, l3, l4, l5, l6⟩ := HL.out; simp [bytesOf_length, l1, l2, l3, l4, l5, l6])); intro v w1 ho hb hg hat; (try clear hcv); have hcv := own_string (P := Tryz.prog) Tryz.underlying22 Tryz.underlying5 Tryz.underlying9 ho; have n0_ := Aside0.mk ho; have n1_ := Aside0.mk hb; clear HO HB; have HO := n0_; have HB := n1_; clear n0_ n1_ ho hb hg; (try clear hat)) | ((with_reducible refine gate_builtin (b := .append) (xs := #[.tmp 33, .tmp 35]) rfl ?_); at_builtin; refine print_append_str (w0 := w) w.heap.size rfl (.tmp 33) (.tmp 35) 22 9 5 rfl Tryz.underlying22 Tryz.underlying9 F.info5 _ _ _ rfl rfl HO.out HB.out HB.out.size ?aL ?_; (case aL => (obtain ⟨l1, l2, l3, l4, l5, l6⟩ := HL.out; simp [bytesOf_length, l1, l2, l3, l4, l5, l6])); intro v w1 ho hb hg; (try clear hcv); have hcv := own_string (P := Tryz.prog) Tryz.underlying22 Tryz.underlying5 Tryz.underlying9 ho; have n0_ := Aside0.mk ho; have n1_ := Aside0.mk hb; clear HO HB; have HO := n0_; have HB := n1_; clear n0_ n1_ ho hb hg; (try clear hat)) | ((with_reducible refine gate_builtin (b := .append) (xs := #[.tmp 45, .tmp 47]) rfl ?_); at_builtin; refine print_append_str (w0 := w) w.heap.size rfl (.tmp 45) (.tmp 47) 22 9 5 rfl Tryz.underlying22 Tryz.underlying9 F.info5 _ _ _ rfl rfl HO.out HB.out HB.out.size ?aL ?_; (case aL => (obtain ⟨l1, l2, l3, l4, l5, l6⟩ := HL.out; simp [bytesOf_length, l1, l2, l3, l4, l5, l6])); intro v w1 ho hb hg; (try clear hcv); have hcv := own_string (P := Tryz.prog) Tryz.underlying22 Tryz.underlying5 Tryz.underlying9 ho; have n0_ := Aside0.mk ho; have n1_ := Aside0.mk hb; clear HO HB; have HO := n0_; have HB := n1_; clear n0_ n1_ ho hb hg; (try clear hat)) | ((with_reducible refine gate_builtin (b := .append) (xs := #[.tmp 51, .tmp 53]) rfl ?_); at_builtin; refine print_append_str (w0 := w) w.heap.size rfl (.tmp 51) (.tmp 53) 22 9 5 rfl Tryz.underlying22 Tryz.underlying9 F.info5 _ _ _ rfl rfl HO.out HB.out HB.out.size ?aL ?_; (case aL => (obtain ⟨l1, l2, l3, l4, l5, l6⟩ := HL.out; simp [bytesOf_length, l1, l2, l3, l4, l5, l6])); intro v w1 ho hb hg; (try clear hcv); have hcv := own_string (P := Tryz.prog) Tryz.underlying22 Tryz.underlying5 Tryz.underlying9 ho; have n0_ := Aside0.mk ho; have n1_ := Aside0.mk hb; clear HO HB; have HO := n0_; have HB := n1_; clear n0_ n1_ ho hb hg; (try clear hat)) | ((with_reducible refine gate_builtin (b := .append) (xs := #[.tmp 59, .tmp 61]) rfl ?_); at_builtin; refine print_append_str (w0 := w) w.heap.size rfl (.tmp 59) (.tmp 61) 22 9 5 rfl Tryz.underlying22 Tryz.underlying9 F.info5 _ _ _ rfl rfl HO.out HB.out HB.out.size ?aL ?_; (case aL => (obtain ⟨l1, l2, l3, l4, l5, l6⟩ := HL.out; simp [bytesOf_length, l1, l2, l3, l4, l5, l6])); intro v w1 ho hb hg; (try clear hcv); have hcv := own_string (P := Tryz.prog) Tryz.underlying22 Tryz.underlying5 Tryz.underlying9 ho; have n0_ := Aside0.mk ho; have n1_ := Aside0.mk hb; clear HO HB; have HO := n0_; have HB := n1_; clear n0_ n1_ ho hb hg; (try clear hat)) | ((with_reducible refine gate_builtin (b := .append) (xs := #[.tmp 65, .tmp 67]) rfl ?_); at_builtin; refine print_append_str (w0 := w) w.heap.size rfl (.tmp 65) (.tmp 67) 22 9 5 rfl Tryz.underlying22 Tryz.underlying9 F.info5 _ _ _ rfl rfl HO.out HB.out HB.out.size ?aL ?_; (case aL => (obtain ⟨l1, l2, l3, l4, l5, l6⟩ := HL.out; simp [bytesOf_length, l1, l2, l3, l4, l5, l6])); intro v w1 ho hb hg; (try clear hcv); have hcv := own_string (P := Tryz.prog) Tryz.underlying22 Tryz.underlying5 Tryz.underlying9 ho; have n0_ := Aside0.mk ho; have n1_ := Aside0.mk hb; clear HO HB; have HO := n0_; have HB := n1_; clear n0_ n1_ ho hb hg; (try clear hat)) | ((with_reducible refine gate_builtin (b := .append) (xs := #[.tmp 17, .tmp 19]) rfl ?_); at_builtin; refine print_append_str (w0 := w) w.heap.size rfl (.tmp 17) (.tmp 19) 22 9 5 rfl Tryz.underlying22 Tryz.underlying9 F.info5 _ _ _ rfl rfl HO.out HB.out HB.out.size ?aL ?_; (case aL => (obtain ⟨l1, l2, l3, l4, l5, l6⟩ := HL.out; simp [bytesOf_length, l1, l2, l3, l4, l5, l6])); intro v w1 ho hb hg; (try clear hcv); have hcv := own_string (P := Tryz.prog) Tryz.underlying22 Tryz.underlying5 Tryz.underlying9 ho; have n0_ := Aside0.mk ho; have n1_ := Aside0.mk hb; clear HO HB; have HO := n0_; have HB := n1_; clear n0_ n1_ ho hb hg; (try clear hat)) | ((with_reducible refine gate_builtin (b := .append) (xs := #[.tmp 41, .tmp 43]) rfl ?_); at_builtin; refine print_append_row (w0 := w) w.heap.size rfl (.tmp 41) (.tmp 43) 22 5 .u8 1 rfl Tryz.underlying22 F.info5 (by decide) _ _ (List.replicate 4 48) _ _ _ rfl rfl (HO.out.alloc _) (lit_reads _ 4 (by decide) _ rfl _) (HB.out.alloc HB.out.size _) (by simp; exact Nat.le_succ_of_le HB.out.size) ?aL ?_; (case aL => (obtain ⟨l1, l2, l3, l4, l5, l6⟩ := HL.out; simp [bytesOf_length, l1, l2, l3, l4, l5, l6])); intro v w1 ho hb hg hat; (try clear hcv); have hcv := own_string (P := Tryz.prog) Tryz.underlying22 Tryz.underlying5 Tryz.underlying9 ho; have n0_ := Aside0.mk ho; have n1_ := Aside0.mk hb; clear HO HB; have HO := n0_; have HB := n1_; clear n0_ n1_ ho hb hg; (try clear hat)) | ((with_reducible refine gate_builtin (b := .append) (xs := #[.tmp 55, .tmp 57]) rfl ?_); at_builtin; refine print_append_row (w0 := w) w.heap.size rfl (.tmp 55) (.tmp 57) 22 5 .u8 1 rfl Tryz.underlying22 F.info5 (by decide) _ _ (List.replicate 5 48) _ _ _ rfl rfl (HO.out.alloc _) (lit_reads _ 5 (by decide) _ rfl _) (HB.out.alloc HB.out.size _) (by simp; exact Nat.le_succ_of_le HB.out.size) ?aL ?_; (case aL => (obtain ⟨l1, l2, l3, l4, l5, l6⟩ := HL.out; simp [bytesOf_length, l1, l2, l3, l4, l5, l6])); intro v w1 ho hb hg hat; (try clear hcv); have hcv := own_string (P := Tryz.prog) Tryz.underlying22 Tryz.underlying5 Tryz.underlying9 ho; have n0_ := Aside0.mk ho; have n1_ := Aside0.mk hb; clear HO HB; have HO := n0_; have HB := n1_; clear n0_ n1_ ho hb hg; (try clear hat)) | ((with_reducible refine gate_builtin (b := .append) (xs := #[.tmp 69, .tmp 71]) rfl ?_); at_builtin; refine print_append_row (w0 := w) w.heap.size rfl (.tmp 69) (.tmp 71) 22 5 .u8 1 rfl Tryz.underlying22 F.info5 (by decide) _ _ (List.replicate 5 48) _ _ _ rfl rfl (HO.out.alloc _) (lit_reads _ 5 (by decide) _ rfl _) (HB.out.alloc HB.out.size _) (by simp; exact Nat.le_succ_of_le HB.out.size) ?aL ?_; (case aL => (obtain ⟨l1, l2, l3, l4, l5, l6⟩ := HL.out; simp [bytesOf_length, l1, l2, l3, l4, l5, l6])); intro v w1 ho hb hg hat; (try clear hcv); have hcv := own_string (P := Tryz.prog) Tryz.underlying22 Tryz.underlying5 Tryz.underlying9 ho; have n0_ := Aside0.mk ho; have n1_ := Aside0.mk hb; clear HO HB; have HO := n0_; have HB := n1_; clear n0_ n1_ ho hb hg; (try clear hat)) | ((with_reducible refine gate_builtin (b := .append) (xs := #[.tmp 21, .tmp 23]) rfl ?_); at_builtin; refine print_append_row (w0 := w) w.heap.size rfl (.tmp 21) (.tmp 23) 22 5 .u8 1 rfl Tryz.underlying22 F.info5 (by decide) _ _ (List.replicate 4 48) _ _ _ rfl rfl (HO.out.alloc _) (lit_reads _ 4 (by decide) _ rfl _) (HB.out.alloc HB.out.size _) (by simp; exact Nat.le_succ_of_le HB.out.size) ?aL ?_; (case aL => (obtain ⟨l1, l2, l3, l4, l5, l6⟩ := HL.out; simp [bytesOf_length, l1, l2, l3, l4, l5, l6])); intro v w1 ho hb hg hat; (try clear hcv); have hcv := own_string (P := Tryz.prog) Tryz.underlying22 Tryz.underlying5 Tryz.underlying9 ho; have n0_ := Aside0.mk ho; have n1_ := Aside0.mk hb; clear HO HB; have HO := n0_; have HB := n1_; clear n0_ n1_ ho hb hg; (try clear hat)))
  go_ret
  exact ⟨by simp [List.replicate], HB.out⟩

set_option maxHeartbeats 4000000 in
set_option maxRecDepth 100000 in
theorem conv180_2 (w : World) (s u : ByteArray) (c0 c4 c5 c7 : Int) (hs : s.size = 8) (hu : s.extract 1 7 = u) (hus : u.size = 6) (hc0 : bt s 0 = c0) (hc4 : bt u 4 = c4) (hc5 : bt u 5 = c5) (hc7 : bt s 7 = c7) (hf0 : (c5 == 48) = false) (hf1 : (c5 == 49) = false) (hf2 : (c5 == 50) = true) :
    Calls Tryz.prog 180 #[.string s] w fun e w' => e = .returned (.string (strOfNums (([] ++ [c0]) ++ bytesOf (u.extract 0 2) ++ [c5] ++ List.replicate 4 48 ++ bytesOf (u.extract 2 5) ++ [c7]))) ∧ Below w.heap.size w w' := by
  obtain ⟨w1, hmk, ho, hb⟩ := make_b12 w
  have kc := fun (W : World) (C : Array Value) (n c : Nat) => Lib.run_convert_bytes_const (P := Tryz.prog) W 22 5 C n c Tryz.underlying22 Tryz.underlying5
  have HO := Aside0.mk ho
  have HB := Aside0.mk hb
  have i0 : ((s[0]'(by omega)).toNat : Int) = c0 := by rw [← hc0]; exact bt_get s 0 (by omega)
  have i7 : ((s[7]'(by omega)).toNat : Int) = c7 := by rw [← hc7]; exact bt_get s 7 (by omega)
  have i4 : ((u[4]'(by omega)).toNat : Int) = c4 := by rw [← hc4]; exact bt_get u 4 (by omega)
  have i5 : ((u[5]'(by omega)).toNat : Int) = c5 := by rw [← hc5]; exact bt_get u 5 (by omega)
  have hsi : (s.size : Int) = 8 := by omega
  have husi : (u.size : Int) = 6 := by omega
  have l1 : (u.extract 0 2).size = 2 := by rw [ByteArray.size_extract]; omega
  have l2 : (u.extract 2 5).size = 3 := by rw [ByteArray.size_extract]; omega
  have l3 : (u.extract 0 3).size = 3 := by rw [ByteArray.size_extract]; omega
  have l4 : (u.extract 3 5).size = 2 := by rw [ByteArray.size_extract]; omega
  have l5 : (u.extract 0 4).size = 4 := by rw [ByteArray.size_extract]; omega
  have l6 : (u.extract 0 5).size = 5 := by rw [ByteArray.size_extract]; omega
  have HL := Aside0.mk (⟨l1, l2, l3, l4, l5, l6⟩ : _ ∧ _ ∧ _ ∧ _ ∧ _ ∧ _)
  clear ho hb hc0 hc4 hc5 hc7 l1 l2 l3 l4 l5 l6
  go_enter Tryz.func180, Tryz.ntmps180
  go_wp2_with (first | ((with_reducible refine gate_builtin (b := .append) (xs := #[.tmp 9, .tmp 12]) rfl ?_); at_builtin; refine print_append_num (w0 := w) w.heap.size rfl (.tmp 9) (.tmp 12) 22 5 .u8 1 rfl Tryz.underlying22 F.info5 (by decide) _ _ _ rfl rfl HO.out HB.out HB.out.size ?aL ?_; (case aL => (obtain ⟨l1, l2, l3, l4, l5, l6⟩ := HL.out; simp [bytesOf_length, l1, l2, l3, l4, l5, l6])); intro v w1 ho hb hg hat; (try clear hcv); have hcv := own_string (P := Tryz.prog) Tryz.underlying22 Tryz.underlying5 Tryz.underlying9 ho; have n0_ := Aside0.mk ho; have n1_ := Aside0.mk hb; clear HO HB; have HO := n0_; have HB := n1_; clear n0_ n1_ ho hb hg; (try clear hat)) | ((with_reducible refine gate_builtin (b := .append) (xs := #[.tmp 37, .tmp 39]) rfl ?_); at_builtin; refine print_append_num (w0 := w) w.heap.size rfl (.tmp 37) (.tmp 39) 22 5 .u8 1 rfl Tryz.underlying22 F.info5 (by decide) _ _ _ rfl rfl HO.out HB.out HB.out.size ?aL ?_; (case aL => (obtain ⟨l1, l2, l3, l4, l5, l6⟩ := HL.out; simp [bytesOf_length, l1, l2, l3, l4, l5, l6])); intro v w1 ho hb hg hat; (try clear hcv); have hcv := own_string (P := Tryz.prog) Tryz.underlying22 Tryz.underlying5 Tryz.underlying9 ho; have n0_ := Aside0.mk ho; have n1_ := Aside0.mk hb; clear HO HB; have HO := n0_; have HB := n1_; clear n0_ n1_ ho hb hg; (try clear hat)) | ((with_reducible refine gate_builtin (b := .append) (xs := #[.tmp 73, .tmp 76]) rfl ?_); at_builtin; refine print_append_num (w0 := w) w.heap.size rfl (.tmp 73) (.tmp 76) 22 5 .u8 1 rfl Tryz.underlying22 F.info5 (by decide) _ _ _ rfl rfl HO.out HB.out HB.out.size ?aL ?_; (case aL => (obtain ⟨l1, l2, l3, l4, l5, l6⟩ := HL.out; simp [bytesOf_length, l1, l2, l3, l4, l5, l6])); intro v w1 ho hb hg hat; (try clear hcv); have hcv := own_string (P := Tryz.prog) Tryz.underlying22 Tryz.underlying5 Tryz.underlying9 ho; have n0_ := Aside0.mk ho; have n1_ := Aside0.mk hb; clear HO HB; have HO := n0_; have HB := n1_; clear n0_ n1_ ho hb hg; (try clear hat)) | ((with_reducible refine gate_builtin (b := .append) (xs := #[.tmp 25, .tmp 27]) rfl ?_); at_builtin; refine print_append_num (w0 := w) w.heap.size rfl (.tmp 25) (.tmp 27) 22 5 .u8 1 rfl Tryz.underlying22 F.info5 (by decide) _ _ _ rfl rfl HO.out HB.out HB.out.size ?aL ?_; (case aL => (obtain ⟨l1, l2, l3, l4, l5, l6⟩ := HL.out; simp [bytesOf_length, l1, l2, l3, l4, l5, l6])); intro v w1 ho hb hg hat; (try clear hcv); have hcv := own_string (P := Tryz.prog) Tryz.underlying22 Tryz.underlying5 Tryz.underlying9 ho; have n0_ := Aside0.mk ho; have n1_ := Aside0.mk hb; clear HO HB; have HO := n0_; have HB := n1_; clear n0_ n1_ ho hb hg; (try clear hat)) | ((with_reducible refine gate_builtin (b := .append) (xs := #[.tmp 81, .tmp 84]) rfl ?_); at_builtin; refine print_append_num (w0 := w) w.heap.size rfl (.tmp 81) (.tmp 84) 22 5 .u8 1 rfl Tryz.underlying22 F.info5 (by decide) _ _ _ rfl rfl HO.out HB.out HB.out.size ?aL ?_; (case aL => (obtain ⟨l1, l2, l3, l4, l5, l6⟩ := HL.out; simp [bytesOf_length, l1, l2, l3, l4, l5, l6])); intro v w1 ho hb hg hat; (try clear hcv); have hcv := own_string (P := Tryz.prog) Tryz.underlying22 Tryz.underlying5 Tryz.underlying9 ho; have n0_ := Aside0.mk ho; have n1_ := Aside0.mk hb; clear HO HB; have HO := n0_; have HB := n1_; clear n0_ n1_ ho hb hg; (try clear hat)) | ((with_reducible refine gate_builtin (b := .append) (xs := #[.tmp 33, .tmp 35]) rfl ?_); at_builtin; refine print_append_str (w0 := w) w.heap.size rfl (.tmp 33) (.tmp 35) 22 9 5 rfl Tryz.underlying22 Tryz.underlying9 F.info5 _ _ _ rfl rfl HO.out HB.out HB.out.size ?aL ?_; (case aL => (obtain ⟨l1, l2, l3, l4, l5, l6⟩ := HL.out; simp [bytesOf_length, l1, l2, l3, l4, l5, l6])); intro v w1 ho hb hg; (try clear hcv); have hcv := own_string (P := Tryz.prog) Tryz.underlying22 Tryz.underlying5 Tryz.underlying9 ho; have n0_ := Aside0.mk ho; have n1_ := Aside0.mk hb; clear HO HB; have HO := n0_; have HB := n1_; clear n0_ n1_ ho hb hg; (try clear hat)) | ((with_reducible refine gate_builtin (b := .append) (xs := #[.tmp 45, .tmp 47]) rfl ?_); at_builtin; refine print_append_str (w0 := w) w.heap.size rfl (.tmp 45) (.tmp 47) 22 9 5 rfl Tryz.underlying22 Tryz.underlying9 F.info5 _ _ _ rfl rfl HO.out HB.out HB.out.size ?aL ?_; (case aL => (obtain ⟨l1, l2, l3, l4, l5, l6⟩ := HL.out; simp [bytesOf_length, l1, l2, l3, l4, l5, l6])); intro v w1 ho hb hg; (try clear hcv); have hcv := own_string (P := Tryz.prog) Tryz.underlying22 Tryz.underlying5 Tryz.underlying9 ho; have n0_ := Aside0.mk ho; have n1_ := Aside0.mk hb; clear HO HB; have HO := n0_; have HB := n1_; clear n0_ n1_ ho hb hg; (try clear hat)) | ((with_reducible refine gate_builtin (b := .append) (xs := #[.tmp 51, .tmp 53]) rfl ?_); at_builtin; refine print_append_str (w0 := w) w.heap.size rfl (.tmp 51) (.tmp 53) 22 9 5 rfl Tryz.underlying22 Tryz.underlying9 F.info5 _ _ _ rfl rfl HO.out HB.out HB.out.size ?aL ?_; (case aL => (obtain ⟨l1, l2, l3, l4, l5, l6⟩ := HL.out; simp [bytesOf_length, l1, l2, l3, l4, l5, l6])); intro v w1 ho hb hg; (try clear hcv); have hcv := own_string (P := Tryz.prog) Tryz.underlying22 Tryz.underlying5 Tryz.underlying9 ho; have n0_ := Aside0.mk ho; have n1_ := Aside0.mk hb; clear HO HB; have HO := n0_; have HB := n1_; clear n0_ n1_ ho hb hg; (try clear hat)) | ((with_reducible refine gate_builtin (b := .append) (xs := #[.tmp 59, .tmp 61]) rfl ?_); at_builtin; refine print_append_str (w0 := w) w.heap.size rfl (.tmp 59) (.tmp 61) 22 9 5 rfl Tryz.underlying22 Tryz.underlying9 F.info5 _ _ _ rfl rfl HO.out HB.out HB.out.size ?aL ?_; (case aL => (obtain ⟨l1, l2, l3, l4, l5, l6⟩ := HL.out; simp [bytesOf_length, l1, l2, l3, l4, l5, l6])); intro v w1 ho hb hg; (try clear hcv); have hcv := own_string (P := Tryz.prog) Tryz.underlying22 Tryz.underlying5 Tryz.underlying9 ho; have n0_ := Aside0.mk ho; have n1_ := Aside0.mk hb; clear HO HB; have HO := n0_; have HB := n1_; clear n0_ n1_ ho hb hg; (try clear hat)) | ((with_reducible refine gate_builtin (b := .append) (xs := #[.tmp 65, .tmp 67]) rfl ?_); at_builtin; refine print_append_str (w0 := w) w.heap.size rfl (.tmp 65) (.tmp 67) 22 9 5 rfl Tryz.underlying22 Tryz.underlying9 F.info5 _ _ _ rfl rfl HO.out HB.out HB.out.size ?aL ?_; (case aL => (obtain ⟨l1, l2, l3, l4, l5, l6⟩ := HL.out; simp [bytesOf_length, l1, l2, l3, l4, l5, l6])); intro v w1 ho hb hg; (try clear hcv); have hcv := own_string (P := Tryz.prog) Tryz.underlying22 Tryz.underlying5 Tryz.underlying9 ho; have n0_ := Aside0.mk ho; have n1_ := Aside0.mk hb; clear HO HB; have HO := n0_; have HB := n1_; clear n0_ n1_ ho hb hg; (try clear hat)) | ((with_reducible refine gate_builtin (b := .append) (xs := #[.tmp 17, .tmp 19]) rfl ?_); at_builtin; refine print_append_str (w0 := w) w.heap.size rfl (.tmp 17) (.tmp 19) 22 9 5 rfl Tryz.underlying22 Tryz.underlying9 F.info5 _ _ _ rfl rfl HO.out HB.out HB.out.size ?aL ?_; (case aL => (obtain ⟨l1, l2, l3, l4, l5, l6⟩ := HL.out; simp [bytesOf_length, l1, l2, l3, l4, l5, l6])); intro v w1 ho hb hg; (try clear hcv); have hcv := own_string (P := Tryz.prog) Tryz.underlying22 Tryz.underlying5 Tryz.underlying9 ho; have n0_ := Aside0.mk ho; have n1_ := Aside0.mk hb; clear HO HB; have HO := n0_; have HB := n1_; clear n0_ n1_ ho hb hg; (try clear hat)) | ((with_reducible refine gate_builtin (b := .append) (xs := #[.tmp 41, .tmp 43]) rfl ?_); at_builtin; refine print_append_row (w0 := w) w.heap.size rfl (.tmp 41) (.tmp 43) 22 5 .u8 1 rfl Tryz.underlying22 F.info5 (by decide) _ _ (List.replicate 4 48) _ _ _ rfl rfl (HO.out.alloc _) (lit_reads _ 4 (by decide) _ rfl _) (HB.out.alloc HB.out.size _) (by simp; exact Nat.le_succ_of_le HB.out.size) ?aL ?_; (case aL => (obtain ⟨l1, l2, l3, l4, l5, l6⟩ := HL.out; simp [bytesOf_length, l1, l2, l3, l4, l5, l6])); intro v w1 ho hb hg hat; (try clear hcv); have hcv := own_string (P := Tryz.prog) Tryz.underlying22 Tryz.underlying5 Tryz.underlying9 ho; have n0_ := Aside0.mk ho; have n1_ := Aside0.mk hb; clear HO HB; have HO := n0_; have HB := n1_; clear n0_ n1_ ho hb hg; (try clear hat)) | ((with_reducible refine gate_builtin (b := .append) (xs := #[.tmp 55, .tmp 57]) rfl ?_); at_builtin; refine print_append_row (w0 := w) w.heap.size rfl (.tmp 55) (.tmp 57) 22 5 .u8 1 rfl Tryz.underlying22 F.info5 (by decide) _ _ (List.replicate 5 48) _ _ _ rfl rfl (HO.out.alloc _) (lit_reads _ 5 (by decide) _ rfl _) (HB.out.alloc HB.out.size _) (by simp; exact Nat.le_succ_of_le HB.out.size) ?aL ?_; (case aL => (obtain ⟨l1, l2, l3, l4, l5, l6⟩ := HL.out; simp [bytesOf_length, l1, l2, l3, l4, l5, l6])); intro v w1 ho hb hg hat; (try clear hcv); have hcv := own_string (P := Tryz.prog) Tryz.underlying22 Tryz.underlying5 Tryz.underlying9 ho; have n0_ := Aside0.mk ho; have n1_ := Aside0.mk hb; clear HO HB; have HO := n0_; have HB := n1_; clear n0_ n1_ ho hb hg; (try clear hat)) | ((with_reducible refine gate_builtin (b := .append) (xs := #[.tmp 69, .tmp 71]) rfl ?_); at_builtin; refine print_append_row (w0 := w) w.heap.size rfl (.tmp 69) (.tmp 71) 22 5 .u8 1 rfl Tryz.underlying22 F.info5 (by decide) _ _ (List.replicate 5 48) _ _ _ rfl rfl (HO.out.alloc _) (lit_reads _ 5 (by decide) _ rfl _) (HB.out.alloc HB.out.size _) (by simp; exact Nat.le_succ_of_le HB.out.size) ?aL ?_; (case aL => (obtain ⟨l1, l2, l3, l4, l5, l6⟩ := HL.out; simp [bytesOf_length, l1, l2, l3, l4, l5, l6])); intro v w1 ho hb hg hat; (try clear hcv); have hcv := own_string (P := Tryz.prog) Tryz.underlying22 Tryz.underlying5 Tryz.underlying9 ho; have n0_ := Aside0.mk ho; have n1_ := Aside0.mk hb; clear HO HB; have HO := n0_; have HB := n1_; clear n0_ n1_ ho hb hg; (try clear hat)) | ((with_reducible refine gate_builtin (b := .append) (xs := #[.tmp 21, .tmp 23]) rfl ?_); at_builtin; refine print_append_row (w0 := w) w.heap.size rfl (.tmp 21) (.tmp 23) 22 5 .u8 1 rfl Tryz.underlying22 F.info5 (by decide) _ _ (List.replicate 4 48) _ _ _ rfl rfl (HO.out.alloc _) (lit_reads _ 4 (by decide) _ rfl _) (HB.out.alloc HB.out.size _) (by simp; exact Nat.le_succ_of_le HB.out.size) ?aL ?_; (case aL => (obtain ⟨l1, l2, l3, l4, l5, l6⟩ := HL.out; simp [bytesOf_length, l1, l2, l3, l4, l5, l6])); intro v w1 ho hb hg hat; (try clear hcv); have hcv := own_string (P := Tryz.prog) Tryz.underlying22 Tryz.underlying5 Tryz.underlying9 ho; have n0_ := Aside0.mk ho; have n1_ := Aside0.mk hb; clear HO HB; have HO := n0_; have HB := n1_; clear n0_ n1_ ho hb hg; (try clear hat)))
  go_ret
  exact ⟨by simp [List.replicate], HB.out⟩

set_option maxHeartbeats 4000000 in
set_option maxRecDepth 100000 in
theorem conv180_3 (w : World) (s u : ByteArray) (c0 c4 c5 c7 : Int) (hs : s.size = 8) (hu : s.extract 1 7 = u) (hus : u.size = 6) (hc0 : bt s 0 = c0) (hc4 : bt u 4 = c4) (hc5 : bt u 5 = c5) (hc7 : bt s 7 = c7) (hf0 : (c5 == 48) = false) (hf1 : (c5 == 49) = false) (hf2 : (c5 == 50) = false) (hf3 : (c5 == 51) = true) :
    Calls Tryz.prog 180 #[.string s] w fun e w' => e = .returned (.string (strOfNums (([] ++ [c0]) ++ bytesOf (u.extract 0 3) ++ List.replicate 5 48 ++ bytesOf (u.extract 3 5) ++ [c7]))) ∧ Below w.heap.size w w' := by
  obtain ⟨w1, hmk, ho, hb⟩ := make_b12 w
  have kc := fun (W : World) (C : Array Value) (n c : Nat) => Lib.run_convert_bytes_const (P := Tryz.prog) W 22 5 C n c Tryz.underlying22 Tryz.underlying5
  have HO := Aside0.mk ho
  have HB := Aside0.mk hb
  have i0 : ((s[0]'(by omega)).toNat : Int) = c0 := by rw [← hc0]; exact bt_get s 0 (by omega)
  have i7 : ((s[7]'(by omega)).toNat : Int) = c7 := by rw [← hc7]; exact bt_get s 7 (by omega)
  have i4 : ((u[4]'(by omega)).toNat : Int) = c4 := by rw [← hc4]; exact bt_get u 4 (by omega)
  have i5 : ((u[5]'(by omega)).toNat : Int) = c5 := by rw [← hc5]; exact bt_get u 5 (by omega)
  have hsi : (s.size : Int) = 8 := by omega
  have husi : (u.size : Int) = 6 := by omega
  have l1 : (u.extract 0 2).size = 2 := by rw [ByteArray.size_extract]; omega
  have l2 : (u.extract 2 5).size = 3 := by rw [ByteArray.size_extract]; omega
  have l3 : (u.extract 0 3).size = 3 := by rw [ByteArray.size_extract]; omega
  have l4 : (u.extract 3 5).size = 2 := by rw [ByteArray.size_extract]; omega
  have l5 : (u.extract 0 4).size = 4 := by rw [ByteArray.size_extract]; omega
  have l6 : (u.extract 0 5).size = 5 := by rw [ByteArray.size_extract]; omega
  have HL := Aside0.mk (⟨l1, l2, l3, l4, l5, l6⟩ : _ ∧ _ ∧ _ ∧ _ ∧ _ ∧ _)
  clear ho hb hc0 hc4 hc5 hc7 l1 l2 l3 l4 l5 l6
  go_enter Tryz.func180, Tryz.ntmps180
  go_wp2_with (first | ((with_reducible refine gate_builtin (b := .append) (xs := #[.tmp 9, .tmp 12]) rfl ?_); at_builtin; refine print_append_num (w0 := w) w.heap.size rfl (.tmp 9) (.tmp 12) 22 5 .u8 1 rfl Tryz.underlying22 F.info5 (by decide) _ _ _ rfl rfl HO.out HB.out HB.out.size ?aL ?_; (case aL => (obtain ⟨l1, l2, l3, l4, l5, l6⟩ := HL.out; simp [bytesOf_length, l1, l2, l3, l4, l5, l6])); intro v w1 ho hb hg hat; (try clear hcv); have hcv := own_string (P := Tryz.prog) Tryz.underlying22 Tryz.underlying5 Tryz.underlying9 ho; have n0_ := Aside0.mk ho; have n1_ := Aside0.mk hb; clear HO HB; have HO := n0_; have HB := n1_; clear n0_ n1_ ho hb hg; (try clear hat)) | ((with_reducible refine gate_builtin (b := .append) (xs := #[.tmp 37, .tmp 39]) rfl ?_); at_builtin; refine print_append_num (w0 := w) w.heap.size rfl (.tmp 37) (.tmp 39) 22 5 .u8 1 rfl Tryz.underlying22 F.info5 (by decide) _ _ _ rfl rfl HO.out HB.out HB.out.size ?aL ?_; (case aL => (obtain ⟨l1, l2, l3, l4, l5, l6⟩ := HL.out; simp [bytesOf_length, l1, l2, l3, l4, l5, l6])); intro v w1 ho hb hg hat; (try clear hcv); have hcv := own_string (P := Tryz.prog) Tryz.underlying22 Tryz.underlying5 Tryz.underlying9 ho; have n0_ := Aside0.mk ho; have n1_ := Aside0.mk hb; clear HO HB; have HO := n0_; have HB := n1_; clear n0_ n1_ ho hb hg; (try clear hat)) | ((with_reducible refine gate_builtin (b := .append) (xs := #[.tmp 73, .tmp 76]) rfl ?_); at_builtin; refine print_append_num (w0 := w) w.heap.size rfl (.tmp 73) (.tmp 76) 22 5 .u8 1 rfl Tryz.underlying22 F.info5 (by decide) _ _ _ rfl rfl HO.out HB.out HB.out.size ?aL ?_; (case aL => (obtain ⟨l1, l2, l3, l4, l5, l6⟩ := HL.out; simp [bytesOf_length, l1, l2, l3, l4, l5, l6])); intro v w1 ho hb hg hat; (try clear hcv); have hcv := own_string (P := Tryz.prog) Tryz.underlying22 Tryz.underlying5 Tryz.underlying9 ho; have n0_ := Aside0.mk ho; have n1_ := Aside0.mk hb; clear HO HB; have HO := n0_; have HB := n1_; clear n0_ n1_ ho hb hg; (try clear hat)) | ((with_reducible refine gate_builtin (b := .append) (xs := #[.tmp 25, .tmp 27]) rfl ?_); at_builtin; refine print_append_num (w0 := w) w.heap.size rfl (.tmp 25) (.tmp 27) 22 5 .u8 1 rfl Tryz.underlying22 F.info5 (by decide) _ _ _ rfl rfl HO.out HB.out HB.out.size ?aL ?_; (case aL => (obtain ⟨l1, l2, l3, l4, l5, l6⟩ := HL.out; simp [bytesOf_length, l1, l2, l3, l4, l5, l6])); intro v w1 ho hb hg hat; (try clear hcv); have hcv := own_string (P := Tryz.prog) Tryz.underlying22 Tryz.underlying5 Tryz.underlying9 ho; have n0_ := Aside0.mk ho; have n1_ := Aside0.mk hb; clear HO HB; have HO := n0_; have HB := n1_; clear n0_ n1_ ho hb hg; (try clear hat)) | ((with_reducible refine gate_builtin (b := .append) (xs := #[.tmp 81, .tmp 84]) rfl ?_); at_builtin; refine print_append_num (w0 := w) w.heap.size rfl (.tmp 81) (.tmp 84) 22 5 .u8 1 rfl Tryz.underlying22 F.info5 (by decide) _ _ _ rfl rfl HO.out HB.out HB.out.size ?aL ?_; (case aL => (obtain ⟨l1, l2, l3, l4, l5, l6⟩ := HL.out; simp [bytesOf_length, l1, l2, l3, l4, l5, l6])); intro v w1 ho hb hg hat; (try clear hcv); have hcv := own_string (P := Tryz.prog) Tryz.underlying22 Tryz.underlying5 Tryz.underlying9 ho; have n0_ := Aside0.mk ho; have n1_ := Aside0.mk hb; clear HO HB; have HO := n0_; have HB := n1_; clear n0_ n1_ ho hb hg; (try clear hat)) | ((with_reducible refine gate_builtin (b := .append) (xs := #[.tmp 33, .tmp 35]) rfl ?_); at_builtin; refine print_append_str (w0 := w) w.heap.size rfl (.tmp 33) (.tmp 35) 22 9 5 rfl Tryz.underlying22 Tryz.underlying9 F.info5 _ _ _ rfl rfl HO.out HB.out HB.out.size ?aL ?_; (case aL => (obtain ⟨l1, l2, l3, l4, l5, l6⟩ := HL.out; simp [bytesOf_length, l1, l2, l3, l4, l5, l6])); intro v w1 ho hb hg; (try clear hcv); have hcv := own_string (P := Tryz.prog) Tryz.underlying22 Tryz.underlying5 Tryz.underlying9 ho; have n0_ := Aside0.mk ho; have n1_ := Aside0.mk hb; clear HO HB; have HO := n0_; have HB := n1_; clear n0_ n1_ ho hb hg; (try clear hat)) | ((with_reducible refine gate_builtin (b := .append) (xs := #[.tmp 45, .tmp 47]) rfl ?_); at_builtin; refine print_append_str (w0 := w) w.heap.size rfl (.tmp 45) (.tmp 47) 22 9 5 rfl Tryz.underlying22 Tryz.underlying9 F.info5 _ _ _ rfl rfl HO.out HB.out HB.out.size ?aL ?_; (case aL => (obtain ⟨l1, l2, l3, l4, l5, l6⟩ := HL.out; simp [bytesOf_length, l1, l2, l3, l4, l5, l6])); intro v w1 ho hb hg; (try clear hcv); have hcv := own_string (P := Tryz.prog) Tryz.underlying22 Tryz.underlying5 Tryz.underlying9 ho; have n0_ := Aside0.mk ho; have n1_ := Aside0.mk hb; clear HO HB; have HO := n0_; have HB := n1_; clear n0_ n1_ ho hb hg; (try clear hat)) | ((with_reducible refine gate_builtin (b := .append) (xs := #[.tmp 51, .tmp 53]) rfl ?_); at_builtin; refine print_append_str (w0 := w) w.heap.size rfl (.tmp 51) (.tmp 53) 22 9 5 rfl Tryz.underlying22 Tryz.underlying9 F.info5 _ _ _ rfl rfl HO.out HB.out HB.out.size ?aL ?_; (case aL => (obtain ⟨l1, l2, l3, l4, l5, l6⟩ := HL.out; simp [bytesOf_length, l1, l2, l3, l4, l5, l6])); intro v w1 ho hb hg; (try clear hcv); have hcv := own_string (P := Tryz.prog) Tryz.underlying22 Tryz.underlying5 Tryz.underlying9 ho; have n0_ := Aside0.mk ho; have n1_ := Aside0.mk hb; clear HO HB; have HO := n0_; have HB := n1_; clear n0_ n1_ ho hb hg; (try clear hat)) | ((with_reducible refine gate_builtin (b := .append) (xs := #[.tmp 59, .tmp 61]) rfl ?_); at_builtin; refine print_append_str (w0 := w) w.heap.size rfl (.tmp 59) (.tmp 61) 22 9 5 rfl Tryz.underlying22 Tryz.underlying9 F.info5 _ _ _ rfl rfl HO.out HB.out HB.out.size ?aL ?_; (case aL => (obtain ⟨l1, l2, l3, l4, l5, l6⟩ := HL.out; simp [bytesOf_length, l1, l2, l3, l4, l5, l6])); intro v w1 ho hb hg; (try clear hcv); have hcv := own_string (P := Tryz.prog) Tryz.underlying22 Tryz.underlying5 Tryz.underlying9 ho; have n0_ := Aside0.mk ho; have n1_ := Aside0.mk hb; clear HO HB; have HO := n0_; have HB := n1_; clear n0_ n1_ ho hb hg; (try clear hat)) | ((with_reducible refine gate_builtin (b := .append) (xs := #[.tmp 65, .tmp 67]) rfl ?_); at_builtin; refine print_append_str (w0 := w) w.heap.size rfl (.tmp 65) (.tmp 67) 22 9 5 rfl Tryz.underlying22 Tryz.underlying9 F.info5 _ _ _ rfl rfl HO.out HB.out HB.out.size ?aL ?_; (case aL => (obtain ⟨l1, l2, l3, l4, l5, l6⟩ := HL.out; simp [bytesOf_length, l1, l2, l3, l4, l5, l6])); intro v w1 ho hb hg; (try clear hcv); have hcv := own_string (P := Tryz.prog) Tryz.underlying22 Tryz.underlying5 Tryz.underlying9 ho; have n0_ := Aside0.mk ho; have n1_ := Aside0.mk hb; clear HO HB; have HO := n0_; have HB := n1_; clear n0_ n1_ ho hb hg; (try clear hat)) | ((with_reducible refine gate_builtin (b := .append) (xs := #[.tmp 17, .tmp 19]) rfl ?_); at_builtin; refine print_append_str (w0 := w) w.heap.size rfl (.tmp 17) (.tmp 19) 22 9 5 rfl Tryz.underlying22 Tryz.underlying9 F.info5 _ _ _ rfl rfl HO.out HB.out HB.out.size ?aL ?_; (case aL => (obtain ⟨l1, l2, l3, l4, l5, l6⟩ := HL.out; simp [bytesOf_length, l1, l2, l3, l4, l5, l6])); intro v w1 ho hb hg; (try clear hcv); have hcv := own_string (P := Tryz.prog) Tryz.underlying22 Tryz.underlying5 Tryz.underlying9 ho; have n0_ := Aside0.mk ho; have n1_ := Aside0.mk hb; clear HO HB; have HO := n0_; have HB := n1_; clear n0_ n1_ ho hb hg; (try clear hat)) | ((with_reducible refine gate_builtin (b := .append) (xs := #[.tmp 41, .tmp 43]) rfl ?_); at_builtin; refine print_append_row (w0 := w) w.heap.size rfl (.tmp 41) (.tmp 43) 22 5 .u8 1 rfl Tryz.underlying22 F.info5 (by decide) _ _ (List.replicate 4 48) _ _ _ rfl rfl (HO.out.alloc _) (lit_reads _ 4 (by decide) _ rfl _) (HB.out.alloc HB.out.size _) (by simp; exact Nat.le_succ_of_le HB.out.size) ?aL ?_; (case aL => (obtain ⟨l1, l2, l3, l4, l5, l6⟩ := HL.out; simp [bytesOf_length, l1, l2, l3, l4, l5, l6])); intro v w1 ho hb hg hat; (try clear hcv); have hcv := own_string (P := Tryz.prog) Tryz.underlying22 Tryz.underlying5 Tryz.underlying9 ho; have n0_ := Aside0.mk ho; have n1_ := Aside0.mk hb; clear HO HB; have HO := n0_; have HB := n1_; clear n0_ n1_ ho hb hg; (try clear hat)) | ((with_reducible refine gate_builtin (b := .append) (xs := #[.tmp 55, .tmp 57]) rfl ?_); at_builtin; refine print_append_row (w0 := w) w.heap.size rfl (.tmp 55) (.tmp 57) 22 5 .u8 1 rfl Tryz.underlying22 F.info5 (by decide) _ _ (List.replicate 5 48) _ _ _ rfl rfl (HO.out.alloc _) (lit_reads _ 5 (by decide) _ rfl _) (HB.out.alloc HB.out.size _) (by simp; exact Nat.le_succ_of_le HB.out.size) ?aL ?_; (case aL => (obtain ⟨l1, l2, l3, l4, l5, l6⟩ := HL.out; simp [bytesOf_length, l1, l2, l3, l4, l5, l6])); intro v w1 ho hb hg hat; (try clear hcv); have hcv := own_string (P := Tryz.prog) Tryz.underlying22 Tryz.underlying5 Tryz.underlying9 ho; have n0_ := Aside0.mk ho; have n1_ := Aside0.mk hb; clear HO HB; have HO := n0_; have HB := n1_; clear n0_ n1_ ho hb hg; (try clear hat)) | ((with_reducible refine gate_builtin (b := .append) (xs := #[.tmp 69, .tmp 71]) rfl ?_); at_builtin; refine print_append_row (w0 := w) w.heap.size rfl (.tmp 69) (.tmp 71) 22 5 .u8 1 rfl Tryz.underlying22 F.info5 (by decide) _ _ (List.replicate 5 48) _ _ _ rfl rfl (HO.out.alloc _) (lit_reads _ 5 (by decide) _ rfl _) (HB.out.alloc HB.out.size _) (by simp; exact Nat.le_succ_of_le HB.out.size) ?aL ?_; (case aL => (obtain ⟨l1, l2, l3, l4, l5, l6⟩ := HL.out; simp [bytesOf_length, l1, l2, l3, l4, l5, l6])); intro v w1 ho hb hg hat; (try clear hcv); have hcv := own_string (P := Tryz.prog) Tryz.underlying22 Tryz.underlying5 Tryz.underlying9 ho; have n0_ := Aside0.mk ho; have n1_ := Aside0.mk hb; clear HO HB; have HO := n0_; have HB := n1_; clear n0_ n1_ ho hb hg; (try clear hat)) | ((with_reducible refine gate_builtin (b := .append) (xs := #[.tmp 21, .tmp 23]) rfl ?_); at_builtin; refine print_append_row (w0 := w) w.heap.size rfl (.tmp 21) (.tmp 23) 22 5 .u8 1 rfl Tryz.underlying22 F.info5 (by decide) _ _ (List.replicate 4 48) _ _ _ rfl rfl (HO.out.alloc _) (lit_reads _ 4 (by decide) _ rfl _) (HB.out.alloc HB.out.size _) (by simp; exact Nat.le_succ_of_le HB.out.size) ?aL ?_; (case aL => (obtain ⟨l1, l2, l3, l4, l5, l6⟩ := HL.out; simp [bytesOf_length, l1, l2, l3, l4, l5, l6])); intro v w1 ho hb hg hat; (try clear hcv); have hcv := own_string (P := Tryz.prog) Tryz.underlying22 Tryz.underlying5 Tryz.underlying9 ho; have n0_ := Aside0.mk ho; have n1_ := Aside0.mk hb; clear HO HB; have HO := n0_; have HB := n1_; clear n0_ n1_ ho hb hg; (try clear hat)))
  go_ret
  exact ⟨by simp [List.replicate], HB.out⟩

set_option maxHeartbeats 4000000 in
set_option maxRecDepth 100000 in
theorem conv180_4 (w : World) (s u : ByteArray) (c0 c4 c5 c7 : Int) (hs : s.size = 8) (hu : s.extract 1 7 = u) (hus : u.size = 6) (hc0 : bt s 0 = c0) (hc4 : bt u 4 = c4) (hc5 : bt u 5 = c5) (hc7 : bt s 7 = c7) (hf0 : (c5 == 48) = false) (hf1 : (c5 == 49) = false) (hf2 : (c5 == 50) = false) (hf3 : (c5 == 51) = false) (hf4 : (c5 == 52) = true) :
    Calls Tryz.prog 180 #[.string s] w fun e w' => e = .returned (.string (strOfNums (([] ++ [c0]) ++ bytesOf (u.extract 0 4) ++ List.replicate 5 48 ++ [c4] ++ [c7]))) ∧ Below w.heap.size w w' := by
  obtain ⟨w1, hmk, ho, hb⟩ := make_b12 w
  have kc := fun (W : World) (C : Array Value) (n c : Nat) => Lib.run_convert_bytes_const (P := Tryz.prog) W 22 5 C n c Tryz.underlying22 Tryz.underlying5
  have HO := Aside0.mk ho
  have HB := Aside0.mk hb
  have i0 : ((s[0]'(by omega)).toNat : Int) = c0 := by rw [← hc0]; exact bt_get s 0 (by omega)
  have i7 : ((s[7]'(by omega)).toNat : Int) = c7 := by rw [← hc7]; exact bt_get s 7 (by omega)
  have i4 : ((u[4]'(by omega)).toNat : Int) = c4 := by rw [← hc4]; exact bt_get u 4 (by omega)
  have i5 : ((u[5]'(by omega)).toNat : Int) = c5 := by rw [← hc5]; exact bt_get u 5 (by omega)
  have hsi : (s.size : Int) = 8 := by omega
  have husi : (u.size : Int) = 6 := by omega
  have l1 : (u.extract 0 2).size = 2 := by rw [ByteArray.size_extract]; omega
  have l2 : (u.extract 2 5).size = 3 := by rw [ByteArray.size_extract]; omega
  have l3 : (u.extract 0 3).size = 3 := by rw [ByteArray.size_extract]; omega
  have l4 : (u.extract 3 5).size = 2 := by rw [ByteArray.size_extract]; omega
  have l5 : (u.extract 0 4).size = 4 := by rw [ByteArray.size_extract]; omega
  have l6 : (u.extract 0 5).size = 5 := by rw [ByteArray.size_extract]; omega
  have HL := Aside0.mk (⟨l1, l2, l3, l4, l5, l6⟩ : _ ∧ _ ∧ _ ∧ _ ∧ _ ∧ _)
  clear ho hb hc0 hc4 hc5 hc7 l1 l2 l3 l4 l5 l6
  go_enter Tryz.func180, Tryz.ntmps180
  go_wp2_with (first | ((with_reducible refine gate_builtin (b := .append) (xs := #[.tmp 9, .tmp 12]) rfl ?_); at_builtin; refine print_append_num (w0 := w) w.heap.size rfl (.tmp 9) (.tmp 12) 22 5 .u8 1 rfl Tryz.underlying22 F.info5 (by decide) _ _ _ rfl rfl HO.out HB.out HB.out.size ?aL ?_; (case aL => (obtain ⟨l1, l2, l3, l4, l5, l6⟩ := HL.out; simp [bytesOf_length, l1, l2, l3, l4, l5, l6])); intro v w1 ho hb hg hat; (try clear hcv); have hcv := own_string (P := Tryz.prog) Tryz.underlying22 Tryz.underlying5 Tryz.underlying9 ho; have n0_ := Aside0.mk ho; have n1_ := Aside0.mk hb; clear HO HB; have HO := n0_; have HB := n1_; clear n0_ n1_ ho hb hg; (try clear hat)) | ((with_reducible refine gate_builtin (b := .append) (xs := #[.tmp 37, .tmp 39]) rfl ?_); at_builtin; refine print_append_num (w0 := w) w.heap.size rfl (.tmp 37) (.tmp 39) 22 5 .u8 1 rfl Tryz.underlying22 F.info5 (by decide) _ _ _ rfl rfl HO.out HB.out HB.out.size ?aL ?_; (case aL => (obtain ⟨l1, l2, l3, l4, l5, l6⟩ := HL.out; simp [bytesOf_length, l1, l2, l3, l4, l5, l6])); intro v w1 ho hb hg hat; (try clear hcv); have hcv := own_string (P := Tryz.prog) Tryz.underlying22 Tryz.underlying5 Tryz.underlying9 ho; have n0_ := Aside0.mk ho; have n1_ := Aside0.mk hb; clear HO HB; have HO := n0_; have HB := n1_; clear n0_ n1_ ho hb hg; (try clear hat)) | ((with_reducible refine gate_builtin (b := .append) (xs := #[.tmp 73, .tmp 76]) rfl ?_); at_builtin; refine print_append_num (w0 := w) w.heap.size rfl (.tmp 73) (.tmp 76) 22 5 .u8 1 rfl Tryz.underlying22 F.info5 (by decide) _ _ _ rfl rfl HO.out HB.out HB.out.size ?aL ?_; (case aL => (obtain ⟨l1, l2, l3, l4, l5, l6⟩ := HL.out; simp [bytesOf_length, l1, l2, l3, l4, l5, l6])); intro v w1 ho hb hg hat; (try clear hcv); have hcv := own_string (P := Tryz.prog) Tryz.underlying22 Tryz.underlying5 Tryz.underlying9 ho; have n0_ := Aside0.mk ho; have n1_ := Aside0.mk hb; clear HO HB; have HO := n0_; have HB := n1_; clear n0_ n1_ ho hb hg; (try clear hat)) | ((with_reducible refine gate_builtin (b := .append) (xs := #[.tmp 25, .tmp 27]) rfl ?_); at_builtin; refine print_append_num (w0 := w) w.heap.size rfl (.tmp 25) (.tmp 27) 22 5 .u8 1 rfl Tryz.underlying22 F.info5 (by decide) _ _ _ rfl rfl HO.out HB.out HB.out.size ?aL ?_; (case aL => (obtain ⟨l1, l2, l3, l4, l5, l6⟩ := HL.out; simp [bytesOf_length, l1, l2, l3, l4, l5, l6])); intro v w1 ho hb hg hat; (try clear hcv); have hcv := own_string (P := Tryz.prog) Tryz.underlying22 Tryz.underlying5 Tryz.underlying9 ho; have n0_ := Aside0.mk ho; have n1_ := Aside0.mk hb; clear HO HB; have HO := n0_; have HB := n1_; clear n0_ n1_ ho hb hg; (try clear hat)) | ((with_reducible refine gate_builtin (b := .append) (xs := #[.tmp 81, .tmp 84]) rfl ?_); at_builtin; refine print_append_num (w0 := w) w.heap.size rfl (.tmp 81) (.tmp 84) 22 5 .u8 1 rfl Tryz.underlying22 F.info5 (by decide) _ _ _ rfl rfl HO.out HB.out HB.out.size ?aL ?_; (case aL => (obtain ⟨l1, l2, l3, l4, l5, l6⟩ := HL.out; simp [bytesOf_length, l1, l2, l3, l4, l5, l6])); intro v w1 ho hb hg hat; (try clear hcv); have hcv := own_string (P := Tryz.prog) Tryz.underlying22 Tryz.underlying5 Tryz.underlying9 ho; have n0_ := Aside0.mk ho; have n1_ := Aside0.mk hb; clear HO HB; have HO := n0_; have HB := n1_; clear n0_ n1_ ho hb hg; (try clear hat)) | ((with_reducible refine gate_builtin (b := .append) (xs := #[.tmp 33, .tmp 35]) rfl ?_); at_builtin; refine print_append_str (w0 := w) w.heap.size rfl (.tmp 33) (.tmp 35) 22 9 5 rfl Tryz.underlying22 Tryz.underlying9 F.info5 _ _ _ rfl rfl HO.out HB.out HB.out.size ?aL ?_; (case aL => (obtain ⟨l1, l2, l3, l4, l5, l6⟩ := HL.out; simp [bytesOf_length, l1, l2, l3, l4, l5, l6])); intro v w1 ho hb hg; (try clear hcv); have hcv := own_string (P := Tryz.prog) Tryz.underlying22 Tryz.underlying5 Tryz.underlying9 ho; have n0_ := Aside0.mk ho; have n1_ := Aside0.mk hb; clear HO HB; have HO := n0_; have HB := n1_; clear n0_ n1_ ho hb hg; (try clear hat)) | ((with_reducible refine gate_builtin (b := .append) (xs := #[.tmp 45, .tmp 47]) rfl ?_); at_builtin; refine print_append_str (w0 := w) w.heap.size rfl (.tmp 45) (.tmp 47) 22 9 5 rfl Tryz.underlying22 Tryz.underlying9 F.info5 _ _ _ rfl rfl HO.out HB.out HB.out.size ?aL ?_; (case aL => (obtain ⟨l1, l2, l3, l4, l5, l6⟩ := HL.out; simp [bytesOf_length, l1, l2, l3, l4, l5, l6])); intro v w1 ho hb hg; (try clear hcv); have hcv := own_string (P := Tryz.prog) Tryz.underlying22 Tryz.underlying5 Tryz.underlying9 ho; have n0_ := Aside0.mk ho; have n1_ := Aside0.mk hb; clear HO HB; have HO := n0_; have HB := n1_; clear n0_ n1_ ho hb hg; (try clear hat)) | ((with_reducible refine gate_builtin (b := .append) (xs := #[.tmp 51, .tmp 53]) rfl ?_); at_builtin; refine print_append_str (w0 := w) w.heap.size rfl (.tmp 51) (.tmp 53) 22 9 5 rfl Tryz.underlying22 Tryz.underlying9 F.info5 _ _ _ rfl rfl HO.out HB.out HB.out.size ?aL ?_; (case aL => (obtain ⟨l1, l2, l3, l4, l5, l6⟩ := HL.out; simp [bytesOf_length, l1, l2, l3, l4, l5, l6])); intro v w1 ho hb hg; (try clear hcv); have hcv := own_string (P := Tryz.prog) Tryz.underlying22 Tryz.underlying5 Tryz.underlying9 ho; have n0_ := Aside0.mk ho; have n1_ := Aside0.mk hb; clear HO HB; have HO := n0_; have HB := n1_; clear n0_ n1_ ho hb hg; (try clear hat)) | ((with_reducible refine gate_builtin (b := .append) (xs := #[.tmp 59, .tmp 61]) rfl ?_); at_builtin; refine print_append_str (w0 := w) w.heap.size rfl (.tmp 59) (.tmp 61) 22 9 5 rfl Tryz.underlying22 Tryz.underlying9 F.info5 _ _ _ rfl rfl HO.out HB.out HB.out.size ?aL ?_; (case aL => (obtain ⟨l1, l2, l3, l4, l5, l6⟩ := HL.out; simp [bytesOf_length, l1, l2, l3, l4, l5, l6])); intro v w1 ho hb hg; (try clear hcv); have hcv := own_string (P := Tryz.prog) Tryz.underlying22 Tryz.underlying5 Tryz.underlying9 ho; have n0_ := Aside0.mk ho; have n1_ := Aside0.mk hb; clear HO HB; have HO := n0_; have HB := n1_; clear n0_ n1_ ho hb hg; (try clear hat)) | ((with_reducible refine gate_builtin (b := .append) (xs := #[.tmp 65, .tmp 67]) rfl ?_); at_builtin; refine print_append_str (w0 := w) w.heap.size rfl (.tmp 65) (.tmp 67) 22 9 5 rfl Tryz.underlying22 Tryz.underlying9 F.info5 _ _ _ rfl rfl HO.out HB.out HB.out.size ?aL ?_; (case aL => (obtain ⟨l1, l2, l3, l4, l5, l6⟩ := HL.out; simp [bytesOf_length, l1, l2, l3, l4, l5, l6])); intro v w1 ho hb hg; (try clear hcv); have hcv := own_string (P := Tryz.prog) Tryz.underlying22 Tryz.underlying5 Tryz.underlying9 ho; have n0_ := Aside0.mk ho; have n1_ := Aside0.mk hb; clear HO HB; have HO := n0_; have HB := n1_; clear n0_ n1_ ho hb hg; (try clear hat)) | ((with_reducible refine gate_builtin (b := .append) (xs := #[.tmp 17, .tmp 19]) rfl ?_); at_builtin; refine print_append_str (w0 := w) w.heap.size rfl (.tmp 17) (.tmp 19) 22 9 5 rfl Tryz.underlying22 Tryz.underlying9 F.info5 _ _ _ rfl rfl HO.out HB.out HB.out.size ?aL ?_; (case aL => (obtain ⟨l1, l2, l3, l4, l5, l6⟩ := HL.out; simp [bytesOf_length, l1, l2, l3, l4, l5, l6])); intro v w1 ho hb hg; (try clear hcv); have hcv := own_string (P := Tryz.prog) Tryz.underlying22 Tryz.underlying5 Tryz.underlying9 ho; have n0_ := Aside0.mk ho; have n1_ := Aside0.mk hb; clear HO HB; have HO := n0_; have HB := n1_; clear n0_ n1_ ho hb hg; (try clear hat)) | ((with_reducible refine gate_builtin (b := .append) (xs := #[.tmp 41, .tmp 43]) rfl ?_); at_builtin; refine print_append_row (w0 := w) w.heap.size rfl (.tmp 41) (.tmp 43) 22 5 .u8 1 rfl Tryz.underlying22 F.info5 (by decide) _ _ (List.replicate 4 48) _ _ _ rfl rfl (HO.out.alloc _) (lit_reads _ 4 (by decide) _ rfl _) (HB.out.alloc HB.out.size _) (by simp; exact Nat.le_succ_of_le HB.out.size) ?aL ?_; (case aL => (obtain ⟨l1, l2, l3, l4, l5, l6⟩ := HL.out; simp [bytesOf_length, l1, l2, l3, l4, l5, l6])); intro v w1 ho hb hg hat; (try clear hcv); have hcv := own_string (P := Tryz.prog) Tryz.underlying22 Tryz.underlying5 Tryz.underlying9 ho; have n0_ := Aside0.mk ho; have n1_ := Aside0.mk hb; clear HO HB; have HO := n0_; have HB := n1_; clear n0_ n1_ ho hb hg; (try clear hat)) | ((with_reducible refine gate_builtin (b := .append) (xs := #[.tmp 55, .tmp 57]) rfl ?_); at_builtin; refine print_append_row (w0 := w) w.heap.size rfl (.tmp 55) (.tmp 57) 22 5 .u8 1 rfl Tryz.underlying22 F.info5 (by decide) _ _ (List.replicate 5 48) _ _ _ rfl rfl (HO.out.alloc _) (lit_reads _ 5 (by decide) _ rfl _) (HB.out.alloc HB.out.size _) (by simp; exact Nat.le_succ_of_le HB.out.size) ?aL ?_; (case aL => (obtain ⟨l1, l2, l3, l4, l5, l6⟩ := HL.out; simp [bytesOf_length, l1, l2, l3, l4, l5, l6])); intro v w1 ho hb hg hat; (try clear hcv); have hcv := own_string (P := Tryz.prog) Tryz.underlying22 Tryz.underlying5 Tryz.underlying9 ho; have n0_ := Aside0.mk ho; have n1_ := Aside0.mk hb; clear HO HB; have HO := n0_; have HB := n1_; clear n0_ n1_ ho hb hg; (try clear hat)) | ((with_reducible refine gate_builtin (b := .append) (xs := #[.tmp 69, .tmp 71]) rfl ?_); at_builtin; refine print_append_row (w0 := w) w.heap.size rfl (.tmp 69) (.tmp 71) 22 5 .u8 1 rfl Tryz.underlying22 F.info5 (by decide) _ _ (List.replicate 5 48) _ _ _ rfl rfl (HO.out.alloc _) (lit_reads _ 5 (by decide) _ rfl _) (HB.out.alloc HB.out.size _) (by simp; exact Nat.le_succ_of_le HB.out.size) ?aL ?_; (case aL => (obtain ⟨l1, l2, l3, l4, l5, l6⟩ := HL.out; simp [bytesOf_length, l1, l2, l3, l4, l5, l6])); intro v w1 ho hb hg hat; (try clear hcv); have hcv := own_string (P := Tryz.prog) Tryz.underlying22 Tryz.underlying5 Tryz.underlying9 ho; have n0_ := Aside0.mk ho; have n1_ := Aside0.mk hb; clear HO HB; have HO := n0_; have HB := n1_; clear n0_ n1_ ho hb hg; (try clear hat)) | ((with_reducible refine gate_builtin (b := .append) (xs := #[.tmp 21, .tmp 23]) rfl ?_); at_builtin; refine print_append_row (w0 := w) w.heap.size rfl (.tmp 21) (.tmp 23) 22 5 .u8 1 rfl Tryz.underlying22 F.info5 (by decide) _ _ (List.replicate 4 48) _ _ _ rfl rfl (HO.out.alloc _) (lit_reads _ 4 (by decide) _ rfl _) (HB.out.alloc HB.out.size _) (by simp; exact Nat.le_succ_of_le HB.out.size) ?aL ?_; (case aL => (obtain ⟨l1, l2, l3, l4, l5, l6⟩ := HL.out; simp [bytesOf_length, l1, l2, l3, l4, l5, l6])); intro v w1 ho hb hg hat; (try clear hcv); have hcv := own_string (P := Tryz.prog) Tryz.underlying22 Tryz.underlying5 Tryz.underlying9 ho; have n0_ := Aside0.mk ho; have n1_ := Aside0.mk hb; clear HO HB; have HO := n0_; have HB := n1_; clear n0_ n1_ ho hb hg; (try clear hat)))
  go_ret
  exact ⟨by simp [List.replicate], HB.out⟩

set_option maxHeartbeats 4000000 in
set_option maxRecDepth 100000 in
theorem conv180_5 (w : World) (s u : ByteArray) (c0 c4 c5 c7 : Int) (hs : s.size = 8) (hu : s.extract 1 7 = u) (hus : u.size = 6) (hc0 : bt s 0 = c0) (hc4 : bt u 4 = c4) (hc5 : bt u 5 = c5) (hc7 : bt s 7 = c7) (hf0 : (c5 == 48) = false) (hf1 : (c5 == 49) = false) (hf2 : (c5 == 50) = false) (hf3 : (c5 == 51) = false) (hf4 : (c5 == 52) = false) :
    Calls Tryz.prog 180 #[.string s] w fun e w' => e = .returned (.string (strOfNums (([] ++ [c0]) ++ bytesOf (u.extract 0 5) ++ List.replicate 4 48 ++ [c5] ++ [c7]))) ∧ Below w.heap.size w w' := by
  obtain ⟨w1, hmk, ho, hb⟩ := make_b12 w
  have kc := fun (W : World) (C : Array Value) (n c : Nat) => Lib.run_convert_bytes_const (P := Tryz.prog) W 22 5 C n c Tryz.underlying22 Tryz.underlying5
  have HO := Aside0.mk ho
  have HB := Aside0.mk hb
  have i0 : ((s[0]'(by omega)).toNat : Int) = c0 := by rw [← hc0]; exact bt_get s 0 (by omega)
  have i7 : ((s[7]'(by omega)).toNat : Int) = c7 := by rw [← hc7]; exact bt_get s 7 (by omega)
  have i4 : ((u[4]'(by omega)).toNat : Int) = c4 := by rw [← hc4]; exact bt_get u 4 (by omega)
  have i5 : ((u[5]'(by omega)).toNat : Int) = c5 := by rw [← hc5]; exact bt_get u 5 (by omega)
  have hsi : (s.size : Int) = 8 := by omega
  have husi : (u.size : Int) = 6 := by omega
  have l1 : (u.extract 0 2).size = 2 := by rw [ByteArray.size_extract]; omega
  have l2 : (u.extract 2 5).size = 3 := by rw [ByteArray.size_extract]; omega
  have l3 : (u.extract 0 3).size = 3 := by rw [ByteArray.size_extract]; omega
  have l4 : (u.extract 3 5).size = 2 := by rw [ByteArray.size_extract]; omega
  have l5 : (u.extract 0 4).size = 4 := by rw [ByteArray.size_extract]; omega
  have l6 : (u.extract 0 5).size = 5 := by rw [ByteArray.size_extract]; omega
  have HL := Aside0.mk (⟨l1, l2, l3, l4, l5, l6⟩ : _ ∧ _ ∧ _ ∧ _ ∧ _ ∧ _)
  clear ho hb hc0 hc4 hc5 hc7 l1 l2 l3 l4 l5 l6
  go_enter Tryz.func180, Tryz.ntmps180
  go_wp2_with (first | ((with_reducible refine gate_builtin (b := .append) (xs := #[.tmp 9, .tmp 12]) rfl ?_); at_builtin; refine print_append_num (w0 := w) w.heap.size rfl (.tmp 9) (.tmp 12) 22 5 .u8 1 rfl Tryz.underlying22 F.info5 (by decide) _ _ _ rfl rfl HO.out HB.out HB.out.size ?aL ?_; (case aL => (obtain ⟨l1, l2, l3, l4, l5, l6⟩ := HL.out; simp [bytesOf_length, l1, l2, l3, l4, l5, l6])); intro v w1 ho hb hg hat; (try clear hcv); have hcv := own_string (P := Tryz.prog) Tryz.underlying22 Tryz.underlying5 Tryz.underlying9 ho; have n0_ := Aside0.mk ho; have n1_ := Aside0.mk hb; clear HO HB; have HO := n0_; have HB := n1_; clear n0_ n1_ ho hb hg; (try clear hat)) | ((with_reducible refine gate_builtin (b := .append) (xs := #[.tmp 37, .tmp 39]) rfl ?_); at_builtin; refine print_append_num (w0 := w) w.heap.size rfl (.tmp 37) (.tmp 39) 22 5 .u8 1 rfl Tryz.underlying22 F.info5 (by decide) _ _ _ rfl rfl HO.out HB.out HB.out.size ?aL ?_; (case aL => (obtain ⟨l1, l2, l3, l4, l5, l6⟩ := HL.out; simp [bytesOf_length, l1, l2, l3, l4, l5, l6])); intro v w1 ho hb hg hat; (try clear hcv); have hcv := own_string (P := Tryz.prog) Tryz.underlying22 Tryz.underlying5 Tryz.underlying9 ho; have n0_ := Aside0.mk ho; have n1_ := Aside0.mk hb; clear HO HB; have HO := n0_; have HB := n1_; clear n0_ n1_ ho hb hg; (try clear hat)) | ((with_reducible refine gate_builtin (b := .append) (xs := #[.tmp 73, .tmp 76]) rfl ?_); at_builtin; refine print_append_num (w0 := w) w.heap.size rfl (.tmp 73) (.tmp 76) 22 5 .u8 1 rfl Tryz.underlying22 F.info5 (by decide) _ _ _ rfl rfl HO.out HB.out HB.out.size ?aL ?_; (case aL => (obtain ⟨l1, l2, l3, l4, l5, l6⟩ := HL.out; simp [bytesOf_length, l1, l2, l3, l4, l5, l6])); intro v w1 ho hb hg hat; (try clear hcv); have hcv := own_string (P := Tryz.prog) Tryz.underlying22 Tryz.underlying5 Tryz.underlying9 ho; have n0_ := Aside0.mk ho; have n1_ := Aside0.mk hb; clear HO HB; have HO := n0_; have HB := n1_; clear n0_ n1_ ho hb hg; (try clear hat)) | ((with_reducible refine gate_builtin (b := .append) (xs := #[.tmp 25, .tmp 27]) rfl ?_); at_builtin; refine print_append_num (w0 := w) w.heap.size rfl (.tmp 25) (.tmp 27) 22 5 .u8 1 rfl Tryz.underlying22 F.info5 (by decide) _ _ _ rfl rfl HO.out HB.out HB.out.size ?aL ?_; (case aL => (obtain ⟨l1, l2, l3, l4, l5, l6⟩ := HL.out; simp [bytesOf_length, l1, l2, l3, l4, l5, l6])); intro v w1 ho hb hg hat; (try clear hcv); have hcv := own_string (P := Tryz.prog) Tryz.underlying22 Tryz.underlying5 Tryz.underlying9 ho; have n0_ := Aside0.mk ho; have n1_ := Aside0.mk hb; clear HO HB; have HO := n0_; have HB := n1_; clear n0_ n1_ ho hb hg; (try clear hat)) | ((with_reducible refine gate_builtin (b := .append) (xs := #[.tmp 81, .tmp 84]) rfl ?_); at_builtin; refine print_append_num (w0 := w) w.heap.size rfl (.tmp 81) (.tmp 84) 22 5 .u8 1 rfl Tryz.underlying22 F.info5 (by decide) _ _ _ rfl rfl HO.out HB.out HB.out.size ?aL ?_; (case aL => (obtain ⟨l1, l2, l3, l4, l5, l6⟩ := HL.out; simp [bytesOf_length, l1, l2, l3, l4, l5, l6])); intro v w1 ho hb hg hat; (try clear hcv); have hcv := own_string (P := Tryz.prog) Tryz.underlying22 Tryz.underlying5 Tryz.underlying9 ho; have n0_ := Aside0.mk ho; have n1_ := Aside0.mk hb; clear HO HB; have HO := n0_; have HB := n1_; clear n0_ n1_ ho hb hg; (try clear hat)) | ((with_reducible refine gate_builtin (b := .append) (xs := #[.tmp 33, .tmp 35]) rfl ?_); at_builtin; refine print_append_str (w0 := w) w.heap.size rfl (.tmp 33) (.tmp 35) 22 9 5 rfl Tryz.underlying22 Tryz.underlying9 F.info5 _ _ _ rfl rfl HO.out HB.out HB.out.size ?aL ?_; (case aL => (obtain ⟨l1, l2, l3, l4, l5, l6⟩ := HL.out; simp [bytesOf_length, l1, l2, l3, l4, l5, l6])); intro v w1 ho hb hg; (try clear hcv); have hcv := own_string (P := Tryz.prog) Tryz.underlying22 Tryz.underlying5 Tryz.underlying9 ho; have n0_ := Aside0.mk ho; have n1_ := Aside0.mk hb; clear HO HB; have HO := n0_; have HB := n1_; clear n0_ n1_ ho hb hg; (try clear hat)) | ((with_reducible refine gate_builtin (b := .append) (xs := #[.tmp 45, .tmp 47]) rfl ?_); at_builtin; refine print_append_str (w0 := w) w.heap.size rfl (.tmp 45) (.tmp 47) 22 9 5 rfl Tryz.underlying22 Tryz.underlying9 F.info5 _ _ _ rfl rfl HO.out HB.out HB.out.size ?aL ?_; (case aL => (obtain ⟨l1, l2, l3, l4, l5, l6⟩ := HL.out; simp [bytesOf_length, l1, l2, l3, l4, l5, l6])); intro v w1 ho hb hg; (try clear hcv); have hcv := own_string (P := Tryz.prog) Tryz.underlying22 Tryz.underlying5 Tryz.underlying9 ho; have n0_ := Aside0.mk ho; have n1_ := Aside0.mk hb; clear HO HB; have HO := n0_; have HB := n1_; clear n0_ n1_ ho hb hg; (try clear hat)) | ((with_reducible refine gate_builtin (b := .append) (xs := #[.tmp 51, .tmp 53]) rfl ?_); at_builtin; refine print_append_str (w0 := w) w.heap.size rfl (.tmp 51) (.tmp 53) 22 9 5 rfl Tryz.underlying22 Tryz.underlying9 F.info5 _ _ _ rfl rfl HO.out HB.out HB.out.size ?aL ?_; (case aL => (obtain ⟨l1, l2, l3, l4, l5, l6⟩ := HL.out; simp [bytesOf_length, l1, l2, l3, l4, l5, l6])); intro v w1 ho hb hg; (try clear hcv); have hcv := own_string (P := Tryz.prog) Tryz.underlying22 Tryz.underlying5 Tryz.underlying9 ho; have n0_ := Aside0.mk ho; have n1_ := Aside0.mk hb; clear HO HB; have HO := n0_; have HB := n1_; clear n0_ n1_ ho hb hg; (try clear hat)) | ((with_reducible refine gate_builtin (b := .append) (xs := #[.tmp 59, .tmp 61]) rfl ?_); at_builtin; refine print_append_str (w0 := w) w.heap.size rfl (.tmp 59) (.tmp 61) 22 9 5 rfl Tryz.underlying22 Tryz.underlying9 F.info5 _ _ _ rfl rfl HO.out HB.out HB.out.size ?aL ?_; (case aL => (obtain ⟨l1, l2, l3, l4, l5, l6⟩ := HL.out; simp [bytesOf_length, l1, l2, l3, l4, l5, l6])); intro v w1 ho hb hg; (try clear hcv); have hcv := own_string (P := Tryz.prog) Tryz.underlying22 Tryz.underlying5 Tryz.underlying9 ho; have n0_ := Aside0.mk ho; have n1_ := Aside0.mk hb; clear HO HB; have HO := n0_; have HB := n1_; clear n0_ n1_ ho hb hg; (try clear hat)) | ((with_reducible refine gate_builtin (b := .append) (xs := #[.tmp 65, .tmp 67]) rfl ?_); at_builtin; refine print_append_str (w0 := w) w.heap.size rfl (.tmp 65) (.tmp 67) 22 9 5 rfl Tryz.underlying22 Tryz.underlying9 F.info5 _ _ _ rfl rfl HO.out HB.out HB.out.size ?aL ?_; (case aL => (obtain ⟨l1, l2, l3, l4, l5, l6⟩ := HL.out; simp [bytesOf_length, l1, l2, l3, l4, l5, l6])); intro v w1 ho hb hg; (try clear hcv); have hcv := own_string (P := Tryz.prog) Tryz.underlying22 Tryz.underlying5 Tryz.underlying9 ho; have n0_ := Aside0.mk ho; have n1_ := Aside0.mk hb; clear HO HB; have HO := n0_; have HB := n1_; clear n0_ n1_ ho hb hg; (try clear hat)) | ((with_reducible refine gate_builtin (b := .append) (xs := #[.tmp 17, .tmp 19]) rfl ?_); at_builtin; refine print_append_str (w0 := w) w.heap.size rfl (.tmp 17) (.tmp 19) 22 9 5 rfl Tryz.underlying22 Tryz.underlying9 F.info5 _ _ _ rfl rfl HO.out HB.out HB.out.size ?aL ?_; (case aL => (obtain ⟨l1, l2, l3, l4, l5, l6⟩ := HL.out; simp [bytesOf_length, l1, l2, l3, l4, l5, l6])); intro v w1 ho hb hg; (try clear hcv); have hcv := own_string (P := Tryz.prog) Tryz.underlying22 Tryz.underlying5 Tryz.underlying9 ho; have n0_ := Aside0.mk ho; have n1_ := Aside0.mk hb; clear HO HB; have HO := n0_; have HB := n1_; clear n0_ n1_ ho hb hg; (try clear hat)) | ((with_reducible refine gate_builtin (b := .append) (xs := #[.tmp 41, .tmp 43]) rfl ?_); at_builtin; refine print_append_row (w0 := w) w.heap.size rfl (.tmp 41) (.tmp 43) 22 5 .u8 1 rfl Tryz.underlying22 F.info5 (by decide) _ _ (List.replicate 4 48) _ _ _ rfl rfl (HO.out.alloc _) (lit_reads _ 4 (by decide) _ rfl _) (HB.out.alloc HB.out.size _) (by simp; exact Nat.le_succ_of_le HB.out.size) ?aL ?_; (case aL => (obtain ⟨l1, l2, l3, l4, l5, l6⟩ := HL.out; simp [bytesOf_length, l1, l2, l3, l4, l5, l6])); intro v w1 ho hb hg hat; (try clear hcv); have hcv := own_string (P := Tryz.prog) Tryz.underlying22 Tryz.underlying5 Tryz.underlying9 ho; have n0_ := Aside0.mk ho; have n1_ := Aside0.mk hb; clear HO HB; have HO := n0_; have HB := n1_; clear n0_ n1_ ho hb hg; (try clear hat)) | ((with_reducible refine gate_builtin (b := .append) (xs := #[.tmp 55, .tmp 57]) rfl ?_); at_builtin; refine print_append_row (w0 := w) w.heap.size rfl (.tmp 55) (.tmp 57) 22 5 .u8 1 rfl Tryz.underlying22 F.info5 (by decide) _ _ (List.replicate 5 48) _ _ _ rfl rfl (HO.out.alloc _) (lit_reads _ 5 (by decide) _ rfl _) (HB.out.alloc HB.out.size _) (by simp; exact Nat.le_succ_of_le HB.out.size) ?aL ?_; (case aL => (obtain ⟨l1, l2, l3, l4, l5, l6⟩ := HL.out; simp [bytesOf_length, l1, l2, l3, l4, l5, l6])); intro v w1 ho hb hg hat; (try clear hcv); have hcv := own_string (P := Tryz.prog) Tryz.underlying22 Tryz.underlying5 Tryz.underlying9 ho; have n0_ := Aside0.mk ho; have n1_ := Aside0.mk hb; clear HO HB; have HO := n0_; have HB := n1_; clear n0_ n1_ ho hb hg; (try clear hat)) | ((with_reducible refine gate_builtin (b := .append) (xs := #[.tmp 69, .tmp 71]) rfl ?_); at_builtin; refine print_append_row (w0 := w) w.heap.size rfl (.tmp 69) (.tmp 71) 22 5 .u8 1 rfl Tryz.underlying22 F.info5 (by decide) _ _ (List.replicate 5 48) _ _ _ rfl rfl (HO.out.alloc _) (lit_reads _ 5 (by decide) _ rfl _) (HB.out.alloc HB.out.size _) (by simp; exact Nat.le_succ_of_le HB.out.size) ?aL ?_; (case aL => (obtain ⟨l1, l2, l3, l4, l5, l6⟩ := HL.out; simp [bytesOf_length, l1, l2, l3, l4, l5, l6])); intro v w1 ho hb hg hat; (try clear hcv); have hcv := own_string (P := Tryz.prog) Tryz.underlying22 Tryz.underlying5 Tryz.underlying9 ho; have n0_ := Aside0.mk ho; have n1_ := Aside0.mk hb; clear HO HB; have HO := n0_; have HB := n1_; clear n0_ n1_ ho hb hg; (try clear hat)) | ((with_reducible refine gate_builtin (b := .append) (xs := #[.tmp 21, .tmp 23]) rfl ?_); at_builtin; refine print_append_row (w0 := w) w.heap.size rfl (.tmp 21) (.tmp 23) 22 5 .u8 1 rfl Tryz.underlying22 F.info5 (by decide) _ _ (List.replicate 4 48) _ _ _ rfl rfl (HO.out.alloc _) (lit_reads _ 4 (by decide) _ rfl _) (HB.out.alloc HB.out.size _) (by simp; exact Nat.le_succ_of_le HB.out.size) ?aL ?_; (case aL => (obtain ⟨l1, l2, l3, l4, l5, l6⟩ := HL.out; simp [bytesOf_length, l1, l2, l3, l4, l5, l6])); intro v w1 ho hb hg hat; (try clear hcv); have hcv := own_string (P := Tryz.prog) Tryz.underlying22 Tryz.underlying5 Tryz.underlying9 ho; have n0_ := Aside0.mk ho; have n1_ := Aside0.mk hb; clear HO HB; have HO := n0_; have HB := n1_; clear n0_ n1_ ho hb hg; (try clear hat)))
  go_ret
  exact ⟨by simp [List.replicate], HB.out⟩

theorem bytesOf_ext (s : ByteArray) (a c : Nat) : bytesOf (s.extract a c) = ((bytesOf s).drop a).take (c - a) := by
  unfold bytesOf
  rw [Lib.extract_data, ← List.map_drop, ← List.map_take]
theorem bytesOf_8 (s : ByteArray) (hs : s.size = 8) : bytesOf s = [bt s 0, bt s 1, bt s 2, bt s 3, bt s 4, bt s 5, bt s 6, bt s 7] := by
  have h : bytesOf s = (List.range 8).map (fun i : Nat => bt s i) := by
    apply List.ext_getElem
    · rw [bytesOf_length, List.length_map, List.length_range, hs]
    · intro i h1 h2
      rw [bytesOf_length] at h1
      rw [List.getElem_map, List.getElem_range, ← rd_bytesOf]
      unfold rd
      rw [List.getD_eq_getElem?_getD, List.getElem?_eq_getElem (by rw [bytesOf_length]; omega)]
      simp
  rw [h]; rfl
/-- The eleven digits that the first seven stand for, as the code takes them. -/
def wideI (s : ByteArray) : List Int :=
  if bt s 6 = 48 ∨ bt s 6 = 49 ∨ bt s 6 = 50 then [bt s 0, bt s 1, bt s 2, bt s 6, 48, 48, 48, 48, bt s 3, bt s 4, bt s 5]
  else if bt s 6 = 51 then [bt s 0, bt s 1, bt s 2, bt s 3, 48, 48, 48, 48, 48, bt s 4, bt s 5]
  else if bt s 6 = 52 then [bt s 0, bt s 1, bt s 2, bt s 3, bt s 4, 48, 48, 48, 48, 48, bt s 5]
  else [bt s 0, bt s 1, bt s 2, bt s 3, bt s 4, bt s 5, 48, 48, 48, 48, bt s 6]
theorem conv180 (w : World) (s : ByteArray) (hs : s.size = 8) :
    Calls Tryz.prog 180 #[.string s] w fun e w' => e = .returned (.string (strOfNums (wideI s ++ [bt s 7]))) ∧ Below w.heap.size w w' := by
  obtain ⟨u, hu⟩ : ∃ u, s.extract 1 7 = u := ⟨_, rfl⟩
  have hus : u.size = 6 := by rw [← hu, ByteArray.size_extract]; omega
  have hb8 := bytesOf_8 s hs
  have hbu : bytesOf u = [bt s 1, bt s 2, bt s 3, bt s 4, bt s 5, bt s 6] := by rw [← hu, bytesOf_ext, hb8]; rfl
  have h4 : bt u 4 = bt s 5 := by rw [← rd_bytesOf, hbu]; rfl
  have h5 : bt u 5 = bt s 6 := by rw [← rd_bytesOf, hbu]; rfl
  have x1 := bytesOf_ext u 0 2
  have x2 := bytesOf_ext u 2 5
  have x3 := bytesOf_ext u 0 3
  have x4 := bytesOf_ext u 3 5
  have x5 := bytesOf_ext u 0 4
  have x6 := bytesOf_ext u 0 5
  rw [hbu] at x1 x2 x3 x4 x5 x6
  unfold wideI
  by_cases e0 : bt s 6 = 48
  · have := conv180_0 w s u _ _ _ _ hs hu hus rfl h4 h5 rfl (beq_iff_eq.2 e0)
    rw [x1, x2] at this
    rw [if_pos (.inl e0)]; exact this
  by_cases e1 : bt s 6 = 49
  · have := conv180_1 w s u _ _ _ _ hs hu hus rfl h4 h5 rfl (beq_eq_false_iff_ne.2 e0) (beq_iff_eq.2 e1)
    rw [x1, x2] at this
    rw [if_pos (.inr (.inl e1))]; exact this
  by_cases e2 : bt s 6 = 50
  · have := conv180_2 w s u _ _ _ _ hs hu hus rfl h4 h5 rfl (beq_eq_false_iff_ne.2 e0) (beq_eq_false_iff_ne.2 e1) (beq_iff_eq.2 e2)
    rw [x1, x2] at this
    rw [if_pos (.inr (.inr e2))]; exact this
  rw [if_neg (by rintro (h | h | h) <;> contradiction)]
  by_cases e3 : bt s 6 = 51
  · have := conv180_3 w s u _ _ _ _ hs hu hus rfl h4 h5 rfl (beq_eq_false_iff_ne.2 e0) (beq_eq_false_iff_ne.2 e1) (beq_eq_false_iff_ne.2 e2) (beq_iff_eq.2 e3)
    rw [x3, x4] at this
    rw [if_pos e3]; exact this
  rw [if_neg e3]
  by_cases e4 : bt s 6 = 52
  · have := conv180_4 w s u _ _ _ _ hs hu hus rfl h4 h5 rfl (beq_eq_false_iff_ne.2 e0) (beq_eq_false_iff_ne.2 e1) (beq_eq_false_iff_ne.2 e2) (beq_eq_false_iff_ne.2 e3) (beq_iff_eq.2 e4)
    rw [x5] at this
    rw [if_pos e4]; exact this
  rw [if_neg e4]
  have := conv180_5 w s u _ _ _ _ hs hu hus rfl h4 h5 rfl (beq_eq_false_iff_ne.2 e0) (beq_eq_false_iff_ne.2 e1) (beq_eq_false_iff_ne.2 e2) (beq_eq_false_iff_ne.2 e3) (beq_eq_false_iff_ne.2 e4)
  rw [x6] at this
  exact this

set_option maxHeartbeats 4000000 in
set_option maxRecDepth 100000 in
theorem wide65_0 (w : World) (s u n : ByteArray) (c5 : Int) (hs : s.size = 7) (hu : s.extract 1 7 = u) (hn : s.extract 0 1 = n) (hus : u.size = 6) (hns : n.size = 1) (hc5 : bt u 5 = c5) (d0 : decide (c5 ≤ 50) = true) :
    Calls Tryz.prog 65 #[.string s] w fun e w' => e = .returned (.string (n ++ u.extract 0 2 ++ u.extract 5 6 ++ (⟨#[48, 48, 48, 48]⟩ : ByteArray) ++ u.extract 2 5)) ∧ Drawn0 w w' := by
  have i5 : ((u[5]'(by omega)).toNat : Int) = c5 := by rw [← hc5]; exact bt_get u 5 (by omega)
  have hsi : (s.size : Int) = 7 := by omega
  have husi : (u.size : Int) = 6 := by omega
  have l02 : (u.extract 0 2).size = 2 := by rw [ByteArray.size_extract]; omega
  have l03 : (u.extract 0 3).size = 3 := by rw [ByteArray.size_extract]; omega
  have l04 : (u.extract 0 4).size = 4 := by rw [ByteArray.size_extract]; omega
  have l05 : (u.extract 0 5).size = 5 := by rw [ByteArray.size_extract]; omega
  have l25 : (u.extract 2 5).size = 3 := by rw [ByteArray.size_extract]; omega
  have l35 : (u.extract 3 5).size = 2 := by rw [ByteArray.size_extract]; omega
  have l45 : (u.extract 4 5).size = 1 := by rw [ByteArray.size_extract]; omega
  have l56 : (u.extract 5 6).size = 1 := by rw [ByteArray.size_extract]; omega
  have hap := @ByteArray.size_append
  clear hc5
  go_enter Tryz.func65, Tryz.ntmps65
  go_wp2_with fail
  go_quiet (fail)
  go_wp2
  go_quiet (fail)
  all_goals try go_wp2
  go_ret
  exact ⟨rfl, by first | exact ⟨_, rfl⟩ | exact ⟨_, World.drewN_drewN _ _ _⟩⟩
set_option maxHeartbeats 4000000 in
set_option maxRecDepth 100000 in
theorem wide65_1 (w : World) (s u n : ByteArray) (c5 : Int) (hs : s.size = 7) (hu : s.extract 1 7 = u) (hn : s.extract 0 1 = n) (hus : u.size = 6) (hns : n.size = 1) (hc5 : bt u 5 = c5) (d0 : decide (c5 ≤ 50) = false) (d1 : (c5 == 51) = true) :
    Calls Tryz.prog 65 #[.string s] w fun e w' => e = .returned (.string (n ++ u.extract 0 3 ++ (⟨#[48, 48, 48, 48, 48]⟩ : ByteArray) ++ u.extract 3 5)) ∧ Drawn0 w w' := by
  have i5 : ((u[5]'(by omega)).toNat : Int) = c5 := by rw [← hc5]; exact bt_get u 5 (by omega)
  have hsi : (s.size : Int) = 7 := by omega
  have husi : (u.size : Int) = 6 := by omega
  have l02 : (u.extract 0 2).size = 2 := by rw [ByteArray.size_extract]; omega
  have l03 : (u.extract 0 3).size = 3 := by rw [ByteArray.size_extract]; omega
  have l04 : (u.extract 0 4).size = 4 := by rw [ByteArray.size_extract]; omega
  have l05 : (u.extract 0 5).size = 5 := by rw [ByteArray.size_extract]; omega
  have l25 : (u.extract 2 5).size = 3 := by rw [ByteArray.size_extract]; omega
  have l35 : (u.extract 3 5).size = 2 := by rw [ByteArray.size_extract]; omega
  have l45 : (u.extract 4 5).size = 1 := by rw [ByteArray.size_extract]; omega
  have l56 : (u.extract 5 6).size = 1 := by rw [ByteArray.size_extract]; omega
  have hap := @ByteArray.size_append
  clear hc5
  go_enter Tryz.func65, Tryz.ntmps65
  go_wp2_with fail
  go_quiet (fail)
  go_wp2
  go_quiet (fail)
  all_goals try go_wp2
  go_ret
  exact ⟨rfl, by first | exact ⟨_, rfl⟩ | exact ⟨_, World.drewN_drewN _ _ _⟩⟩
set_option maxHeartbeats 4000000 in
set_option maxRecDepth 100000 in
theorem wide65_2 (w : World) (s u n : ByteArray) (c5 : Int) (hs : s.size = 7) (hu : s.extract 1 7 = u) (hn : s.extract 0 1 = n) (hus : u.size = 6) (hns : n.size = 1) (hc5 : bt u 5 = c5) (d0 : decide (c5 ≤ 50) = false) (d1 : (c5 == 51) = false) (d2 : (c5 == 52) = true) :
    Calls Tryz.prog 65 #[.string s] w fun e w' => e = .returned (.string (n ++ u.extract 0 4 ++ (⟨#[48, 48, 48, 48, 48]⟩ : ByteArray) ++ u.extract 4 5)) ∧ Drawn0 w w' := by
  have i5 : ((u[5]'(by omega)).toNat : Int) = c5 := by rw [← hc5]; exact bt_get u 5 (by omega)
  have hsi : (s.size : Int) = 7 := by omega
  have husi : (u.size : Int) = 6 := by omega
  have l02 : (u.extract 0 2).size = 2 := by rw [ByteArray.size_extract]; omega
  have l03 : (u.extract 0 3).size = 3 := by rw [ByteArray.size_extract]; omega
  have l04 : (u.extract 0 4).size = 4 := by rw [ByteArray.size_extract]; omega
  have l05 : (u.extract 0 5).size = 5 := by rw [ByteArray.size_extract]; omega
  have l25 : (u.extract 2 5).size = 3 := by rw [ByteArray.size_extract]; omega
  have l35 : (u.extract 3 5).size = 2 := by rw [ByteArray.size_extract]; omega
  have l45 : (u.extract 4 5).size = 1 := by rw [ByteArray.size_extract]; omega
  have l56 : (u.extract 5 6).size = 1 := by rw [ByteArray.size_extract]; omega
  have hap := @ByteArray.size_append
  clear hc5
  go_enter Tryz.func65, Tryz.ntmps65
  go_wp2_with fail
  go_quiet (fail)
  go_wp2
  go_quiet (fail)
  all_goals try go_wp2
  go_ret
  exact ⟨rfl, by first | exact ⟨_, rfl⟩ | exact ⟨_, World.drewN_drewN _ _ _⟩⟩
set_option maxHeartbeats 4000000 in
set_option maxRecDepth 100000 in
theorem wide65_3 (w : World) (s u n : ByteArray) (c5 : Int) (hs : s.size = 7) (hu : s.extract 1 7 = u) (hn : s.extract 0 1 = n) (hus : u.size = 6) (hns : n.size = 1) (hc5 : bt u 5 = c5) (d0 : decide (c5 ≤ 50) = false) (d1 : (c5 == 51) = false) (d2 : (c5 == 52) = false) :
    Calls Tryz.prog 65 #[.string s] w fun e w' => e = .returned (.string (n ++ u.extract 0 5 ++ (⟨#[48, 48, 48, 48]⟩ : ByteArray) ++ u.extract 5 6)) ∧ Drawn0 w w' := by
  have i5 : ((u[5]'(by omega)).toNat : Int) = c5 := by rw [← hc5]; exact bt_get u 5 (by omega)
  have hsi : (s.size : Int) = 7 := by omega
  have husi : (u.size : Int) = 6 := by omega
  have l02 : (u.extract 0 2).size = 2 := by rw [ByteArray.size_extract]; omega
  have l03 : (u.extract 0 3).size = 3 := by rw [ByteArray.size_extract]; omega
  have l04 : (u.extract 0 4).size = 4 := by rw [ByteArray.size_extract]; omega
  have l05 : (u.extract 0 5).size = 5 := by rw [ByteArray.size_extract]; omega
  have l25 : (u.extract 2 5).size = 3 := by rw [ByteArray.size_extract]; omega
  have l35 : (u.extract 3 5).size = 2 := by rw [ByteArray.size_extract]; omega
  have l45 : (u.extract 4 5).size = 1 := by rw [ByteArray.size_extract]; omega
  have l56 : (u.extract 5 6).size = 1 := by rw [ByteArray.size_extract]; omega
  have hap := @ByteArray.size_append
  clear hc5
  go_enter Tryz.func65, Tryz.ntmps65
  go_wp2_with fail
  go_quiet (fail)
  go_wp2
  go_quiet (fail)
  all_goals try go_wp2
  go_ret
  exact ⟨rfl, by first | exact ⟨_, rfl⟩ | exact ⟨_, World.drewN_drewN _ _ _⟩⟩

/-! ### UPC-E: what seven digits stand for -/
theorem bytesOf_str (xs : List Int) (h : ∀ x ∈ xs, 0 ≤ x ∧ x < 256) : bytesOf (strOfNums xs) = xs := by
  unfold bytesOf strOfNums
  simp only [List.map_map]
  conv => rhs; rw [← List.map_id xs]
  apply List.map_congr_left
  intro x hx
  have := h x hx
  show ((UInt8.ofNat x.toNat).toNat : Int) = x
  have e : (UInt8.ofNat x.toNat).toNat = x.toNat % 256 := rfl
  rw [e]; omega
theorem str_size (xs : List Int) : (strOfNums xs).size = xs.length := by
  rw [← data_length]; simp [strOfNums]
theorem bt_str (xs : List Int) (h : ∀ x ∈ xs, 0 ≤ x ∧ x < 256) (i : Int) : bt (strOfNums xs) i = rd xs i := by
  rw [← rd_bytesOf, bytesOf_str xs h]
theorem str_bytes (s : ByteArray) : strOfNums (bytesOf s) = s := by
  have h : (strOfNums (bytesOf s)).data.toList = s.data.toList := by
    unfold bytesOf strOfNums
    simp only [List.map_map]
    conv => rhs; rw [← List.map_id s.data.toList]
    apply List.map_congr_left
    intro x hx
    show UInt8.ofNat ((x.toNat : Int)).toNat = x
    simp
  have := Array.toList_inj.1 h
  cases hx : strOfNums (bytesOf s) with
  | mk d => rw [hx] at this; cases s; simp at this; rw [this]
theorem bytes_inj {a b : ByteArray} (h : bytesOf a = bytesOf b) : a = b := by rw [← str_bytes a, h, str_bytes b]
theorem bytesOf_append (a b : ByteArray) : bytesOf (a ++ b) = bytesOf a ++ bytesOf b := by
  unfold bytesOf; rw [ba_append, List.map_append]
theorem bt_rng (s : ByteArray) (i : Int) : 0 ≤ bt s i ∧ bt s i < 256 := by have := bt_range s i; omega
theorem wideI_len (s : ByteArray) : (wideI s).length = 11 := by unfold wideI; repeat' first | rfl | split
theorem wideI_rng (s : ByteArray) : ∀ x ∈ wideI s, 0 ≤ x ∧ x < 256 := by
  have h0 := bt_rng s 0; have h1 := bt_rng s 1; have h2 := bt_rng s 2; have h3 := bt_rng s 3; have h4 := bt_rng s 4; have h5 := bt_rng s 5; have h6 := bt_rng s 6
  intro x hx
  unfold wideI at hx
  repeat' split at hx
  all_goals
    simp only [List.mem_cons, List.not_mem_nil, or_false] at hx
    rcases hx with rfl | rfl | rfl | rfl | rfl | rfl | rfl | rfl | rfl | rfl | rfl <;> omega
def cvT (s : ByteArray) : ByteArray := strOfNums (wideI s ++ [bt s 7])
def wideT (s : ByteArray) : ByteArray := strOfNums (wideI s)
theorem cvT_rng (s : ByteArray) : ∀ x ∈ wideI s ++ [bt s 7], 0 ≤ x ∧ x < 256 := by
  intro x hx
  rcases List.mem_append.1 hx with h | h
  · exact wideI_rng s x h
  · obtain rfl := List.mem_singleton.1 h
    exact bt_rng s 7
theorem cvT_size (s : ByteArray) : (cvT s).size = 12 := by unfold cvT; rw [str_size, List.length_append, wideI_len]; rfl
theorem wideT_size (s : ByteArray) : (wideT s).size = 11 := by unfold wideT; rw [str_size, wideI_len]
theorem rd_left (a b : List Int) (i : Nat) (h : i < a.length) : rd (a ++ b) i = rd a i := by
  unfold rd
  simp only [Int.toNat_natCast]
  rw [List.getD_eq_getElem?_getD, List.getD_eq_getElem?_getD, List.getElem?_append_left h]
theorem dgt_cv (s : ByteArray) (i : Nat) (h : i < 11) : dgt (cvT s) i = dgt (wideT s) i := by
  unfold dgt cvT wideT
  rw [bt_str _ (cvT_rng s), bt_str _ (wideI_rng s), rd_left _ _ _ (by rw [wideI_len]; exact h)]
theorem dgt_cv_last (s : ByteArray) : dgt (cvT s) 11 = dgt s 7 := by
  unfold dgt cvT
  rw [bt_str _ (cvT_rng s)]
  have : rd (wideI s ++ [bt s 7]) ((11 : Nat) : Int) = bt s 7 := by
    unfold rd
    rw [List.getD_eq_getElem?_getD, List.getElem?_append_right (by rw [wideI_len]; decide), wideI_len]
    rfl
  rw [this]
  rfl
theorem legs_congr (a b : ByteArray) (p : Int) (j : Nat) (n : Nat) (hp : p < n) (hn : 0 < n) (h : ∀ i < n, dgt a i = dgt b i) : legs a p j = legs b p j := by
  induction j with
  | zero => rfl
  | succ j ih =>
    simp only [legs]
    rw [ih, h (p - 2 * (j : Int)).toNat (by omega)]
theorem chk_congr (a b : ByteArray) (n : Nat) (hn : 0 < n) (h : ∀ i < n, dgt a i = dgt b i) : chk a n = chk b n := by
  unfold chk
  rw [legs_congr a b _ _ n (by omega) hn h, legs_congr a b _ _ n (by omega) hn h]
def ckE (s : ByteArray) : Int := chk (wideT s) 11
theorem chk_cv (s : ByteArray) : chk (cvT s) 11 = ckE s := chk_congr _ _ 11 (by omega) (fun i hi => dgt_cv s i hi)
theorem ckE_range (s : ByteArray) : 0 ≤ ckE s ∧ ckE s ≤ 9 := chk_range _ _
def okI (x : Int) : Prop := (x - 48) % 256 ≤ 9
theorem allDig_str (xs : List Int) (h : ∀ x ∈ xs, 0 ≤ x ∧ x < 256) : AllDig (strOfNums xs) xs.length ↔ ∀ x ∈ xs, okI x := by
  constructor
  · intro ha x hx
    obtain ⟨i, hi, rfl⟩ := List.getElem_of_mem hx
    have := ha i hi
    unfold dgt at this
    rw [bt_str xs h] at this
    unfold rd at this
    rw [Int.toNat_natCast, List.getD_eq_getElem?_getD, List.getElem?_eq_getElem hi] at this
    exact this
  · intro ha i hi
    unfold dgt
    rw [bt_str xs h]
    unfold rd
    rw [Int.toNat_natCast, List.getD_eq_getElem?_getD, List.getElem?_eq_getElem hi]
    exact ha _ (List.getElem_mem hi)
theorem okI_48 : okI 48 := by unfold okI; omega
theorem wide_ok (s : ByteArray) : (∀ x ∈ wideI s, okI x) ↔ ∀ i < 7, okI (bt s (i : Nat)) := by
  have h7 : (∀ i < 7, okI (bt s (i : Nat))) ↔ (okI (bt s 0) ∧ okI (bt s 1) ∧ okI (bt s 2) ∧ okI (bt s 3) ∧ okI (bt s 4) ∧ okI (bt s 5) ∧ okI (bt s 6)) := by
    constructor
    · intro h; exact ⟨h 0 (by omega), h 1 (by omega), h 2 (by omega), h 3 (by omega), h 4 (by omega), h 5 (by omega), h 6 (by omega)⟩
    · rintro ⟨a, b, c, d, e, f, g⟩ i hi
      match i, hi with
      | 0, _ => exact a
      | 1, _ => exact b
      | 2, _ => exact c
      | 3, _ => exact d
      | 4, _ => exact e
      | 5, _ => exact f
      | 6, _ => exact g
  rw [h7]
  have z := okI_48
  unfold wideI
  split
  · simp only [List.forall_mem_cons, List.not_mem_nil, false_imp_iff, implies_true, and_true]
    constructor
    · rintro ⟨a, b, c, g, _, _, _, _, d, e, f⟩; exact ⟨a, b, c, d, e, f, g⟩
    · rintro ⟨a, b, c, d, e, f, g⟩; exact ⟨a, b, c, g, z, z, z, z, d, e, f⟩
  · split
    · rename_i h51
      simp only [List.forall_mem_cons, List.not_mem_nil, false_imp_iff, implies_true, and_true]
      constructor
      · rintro ⟨a, b, c, d, _, _, _, _, _, e, f⟩; exact ⟨a, b, c, d, e, f, by rw [h51]; unfold okI; omega⟩
      · rintro ⟨a, b, c, d, e, f, g⟩; exact ⟨a, b, c, d, z, z, z, z, z, e, f⟩
    · split
      · rename_i h52
        simp only [List.forall_mem_cons, List.not_mem_nil, false_imp_iff, implies_true, and_true]
        constructor
        · rintro ⟨a, b, c, d, e, _, _, _, _, _, f⟩; exact ⟨a, b, c, d, e, f, by rw [h52]; unfold okI; omega⟩
        · rintro ⟨a, b, c, d, e, f, g⟩; exact ⟨a, b, c, d, e, z, z, z, z, z, f⟩
      · simp only [List.forall_mem_cons, List.not_mem_nil, false_imp_iff, implies_true, and_true]
        constructor
        · rintro ⟨a, b, c, d, e, f, _, _, _, _, g⟩; exact ⟨a, b, c, d, e, f, g⟩
        · rintro ⟨a, b, c, d, e, f, g⟩; exact ⟨a, b, c, d, e, f, z, z, z, z, g⟩
theorem wideT_all (s : ByteArray) : AllDig (wideT s) 11 ↔ AllDig s 7 := by
  have := allDig_str (wideI s) (wideI_rng s)
  rw [wideI_len] at this
  unfold wideT
  rw [this, wide_ok]
  rfl
theorem cvT_all (s : ByteArray) : AllDig (cvT s) 11 ↔ AllDig s 7 := by
  rw [← wideT_all]
  constructor
  · intro h i hi; rw [← dgt_cv s i hi]; exact h i hi
  · intro h i hi; rw [dgt_cv s i hi]; exact h i hi
/-- What the reference makes of the first seven digits. -/
theorem wide65 (w : World) (s : ByteArray) (hs : s.size = 7) (hd : AllDig s 7) :
    Calls Tryz.prog 65 #[.string s] w fun e w' => e = .returned (.string (wideT s)) ∧ Drawn0 w w' := by
  have hb : bytesOf s = [bt s 0, bt s 1, bt s 2, bt s 3, bt s 4, bt s 5, bt s 6] := by
    have h : bytesOf s = (List.range 7).map (fun i : Nat => bt s i) := by
      apply List.ext_getElem
      · rw [bytesOf_length, List.length_map, List.length_range, hs]
      · intro i h1 h2
        rw [bytesOf_length] at h1
        rw [List.getElem_map, List.getElem_range, ← rd_bytesOf]
        unfold rd
        rw [List.getD_eq_getElem?_getD, List.getElem?_eq_getElem (by rw [bytesOf_length]; omega)]
        simp
    rw [h]; rfl
  obtain ⟨u, hu⟩ : ∃ u, s.extract 1 7 = u := ⟨_, rfl⟩
  have hus : u.size = 6 := by rw [← hu, ByteArray.size_extract]; omega
  have hbu : bytesOf u = [bt s 1, bt s 2, bt s 3, bt s 4, bt s 5, bt s 6] := by rw [← hu, bytesOf_ext, hb]; rfl
  have h5 : bt u 5 = bt s 6 := by rw [← rd_bytesOf, hbu]; rfl
  obtain ⟨n, hn⟩ : ∃ n, s.extract 0 1 = n := ⟨_, rfl⟩
  have hbn : bytesOf n = [bt s 0] := by rw [← hn, bytesOf_ext, hb]; rfl
  have hns : n.size = 1 := by rw [← hn, ByteArray.size_extract]; omega
  have d6 := (dgt_ok s 6).1 (hd 6 (by omega))
  have d6' : bt s 6 = bt s ((6 : Nat) : Int) := rfl
  have hz4 : bytesOf (⟨#[48, 48, 48, 48]⟩ : ByteArray) = [48, 48, 48, 48] := rfl
  have hz5 : bytesOf (⟨#[48, 48, 48, 48, 48]⟩ : ByteArray) = [48, 48, 48, 48, 48] := rfl
  by_cases c1 : bt s 6 ≤ 50
  · have hw : wideI s = [bt s 0, bt s 1, bt s 2, bt s 6, 48, 48, 48, 48, bt s 3, bt s 4, bt s 5] := by unfold wideI; rw [if_pos (by omega)]
    have hr : n ++ u.extract 0 2 ++ u.extract 5 6 ++ (⟨#[48, 48, 48, 48]⟩ : ByteArray) ++ u.extract 2 5 = wideT s := by
      apply bytes_inj
      unfold wideT
      rw [bytesOf_str _ (wideI_rng s), hw]
      simp only [bytesOf_append, bytesOf_ext, hbu, hbn, hz4, hz5]
      rfl
    have := wide65_0 w s u n _ hs hu hn hus hns h5 (decide_eq_true c1)
    rw [hr] at this
    exact this
  by_cases c2 : bt s 6 = 51
  · have hw : wideI s = [bt s 0, bt s 1, bt s 2, bt s 3, 48, 48, 48, 48, 48, bt s 4, bt s 5] := by unfold wideI; rw [if_neg (by omega), if_pos c2]
    have hr : n ++ u.extract 0 3 ++ (⟨#[48, 48, 48, 48, 48]⟩ : ByteArray) ++ u.extract 3 5 = wideT s := by
      apply bytes_inj
      unfold wideT
      rw [bytesOf_str _ (wideI_rng s), hw]
      simp only [bytesOf_append, bytesOf_ext, hbu, hbn, hz4, hz5]
      rfl
    have := wide65_1 w s u n _ hs hu hn hus hns h5 (decide_eq_false c1) (beq_iff_eq.2 c2)
    rw [hr] at this
    exact this
  by_cases c3 : bt s 6 = 52
  · have hw : wideI s = [bt s 0, bt s 1, bt s 2, bt s 3, bt s 4, 48, 48, 48, 48, 48, bt s 5] := by unfold wideI; rw [if_neg (by omega), if_neg c2, if_pos c3]
    have hr : n ++ u.extract 0 4 ++ (⟨#[48, 48, 48, 48, 48]⟩ : ByteArray) ++ u.extract 4 5 = wideT s := by
      apply bytes_inj
      unfold wideT
      rw [bytesOf_str _ (wideI_rng s), hw]
      simp only [bytesOf_append, bytesOf_ext, hbu, hbn, hz4, hz5]
      rfl
    have := wide65_2 w s u n _ hs hu hn hus hns h5 (decide_eq_false c1) (beq_eq_false_iff_ne.2 c2) (beq_iff_eq.2 c3)
    rw [hr] at this
    exact this
  · have hw : wideI s = [bt s 0, bt s 1, bt s 2, bt s 3, bt s 4, bt s 5, 48, 48, 48, 48, bt s 6] := by unfold wideI; rw [if_neg (by omega), if_neg c2, if_neg c3]
    have hr : n ++ u.extract 0 5 ++ (⟨#[48, 48, 48, 48]⟩ : ByteArray) ++ u.extract 5 6 = wideT s := by
      apply bytes_inj
      unfold wideT
      rw [bytesOf_str _ (wideI_rng s), hw]
      simp only [bytesOf_append, bytesOf_ext, hbu, hbn, hz4, hz5]
      rfl
    have := wide65_3 w s u n _ hs hu hn hus hns h5 (decide_eq_false c1) (beq_eq_false_iff_ne.2 c2) (beq_eq_false_iff_ne.2 c3)
    rw [hr] at this
    exact this

/-! ### The sets of UPC-E -/
def tabE : List ByteArray := [⟨#[66, 66, 66, 65, 65, 65]⟩, ⟨#[66, 66, 65, 66, 65, 65]⟩, ⟨#[66, 66, 65, 65, 66, 65]⟩, ⟨#[66, 66, 65, 65, 65, 66]⟩, ⟨#[66, 65, 66, 66, 65, 65]⟩, ⟨#[66, 65, 65, 66, 66, 65]⟩, ⟨#[66, 65, 65, 65, 66, 66]⟩, ⟨#[66, 65, 66, 65, 66, 65]⟩, ⟨#[66, 65, 66, 65, 65, 66]⟩, ⟨#[66, 65, 65, 66, 65, 66]⟩]
def tE (n : Nat) : ByteArray := tabE.getD n ⟨#[]⟩
theorem tE_facts : ∀ n : Fin 10, (tE n.val).size = 6 ∧ ∀ i : Fin 6, bt (tE n.val) (i.val : Int) = 65 ∨ bt (tE n.val) (i.val : Int) = 66 := by decide +kernel
/-- The other sets. -/
def flp (S : ByteArray) : Nat → ByteArray
  | 0 => ⟨#[]⟩
  | i + 1 => flp S i ++ ⟨#[UInt8.ofNat (131 - bt S i).toNat]⟩
theorem flp_size (S : ByteArray) (i : Nat) : (flp S i).size = i := by
  induction i with
  | zero => rfl
  | succ i ih => rw [flp, ByteArray.size_append, ih]; rfl
def setsE (f n : Nat) : ByteArray := if f = 0 then tE n else flp (tE n) 6
set_option maxHeartbeats 4000000 in
set_option maxRecDepth 100000 in
theorem sets67_0 (w : World) (b7 : Int) (h0 : 48 ≤ b7) (h1 : b7 ≤ 57) :
    Calls Tryz.prog 67 #[.int .u8 48, .int .u8 b7] w fun e w' => e = .returned (.string (setsE 0 (b7 - 48).toNat)) ∧ Below w.heap.size w w' := by
  have hcell : (w.alloc (.cells #[.string ⟨#[66, 66, 66, 65, 65, 65]⟩, .string ⟨#[66, 66, 65, 66, 65, 65]⟩, .string ⟨#[66, 66, 65, 65, 66, 65]⟩, .string ⟨#[66, 66, 65, 65, 65, 66]⟩, .string ⟨#[66, 65, 66, 66, 65, 65]⟩, .string ⟨#[66, 65, 65, 66, 66, 65]⟩, .string ⟨#[66, 65, 65, 65, 66, 66]⟩, .string ⟨#[66, 65, 66, 65, 66, 65]⟩, .string ⟨#[66, 65, 66, 65, 65, 66]⟩, .string ⟨#[66, 65, 65, 66, 65, 66]⟩] 9)).cell? ⟨w.heap.size, (b7 - 48).toNat, none⟩ = some (.string (tE (b7 - 48).toNat)) := by
    rw [show (w.alloc (.cells #[.string ⟨#[66, 66, 66, 65, 65, 65]⟩, .string ⟨#[66, 66, 65, 66, 65, 65]⟩, .string ⟨#[66, 66, 65, 65, 66, 65]⟩, .string ⟨#[66, 66, 65, 65, 65, 66]⟩, .string ⟨#[66, 65, 66, 66, 65, 65]⟩, .string ⟨#[66, 65, 65, 66, 66, 65]⟩, .string ⟨#[66, 65, 65, 65, 66, 66]⟩, .string ⟨#[66, 65, 66, 65, 66, 65]⟩, .string ⟨#[66, 65, 66, 65, 65, 66]⟩, .string ⟨#[66, 65, 65, 66, 65, 66]⟩] 9)).cell? ⟨w.heap.size, (b7 - 48).toNat, none⟩ = (#[.string ⟨#[66, 66, 66, 65, 65, 65]⟩, .string ⟨#[66, 66, 65, 66, 65, 65]⟩, .string ⟨#[66, 66, 65, 65, 66, 65]⟩, .string ⟨#[66, 66, 65, 65, 65, 66]⟩, .string ⟨#[66, 65, 66, 66, 65, 65]⟩, .string ⟨#[66, 65, 65, 66, 66, 65]⟩, .string ⟨#[66, 65, 65, 65, 66, 66]⟩, .string ⟨#[66, 65, 66, 65, 66, 65]⟩, .string ⟨#[66, 65, 66, 65, 65, 66]⟩, .string ⟨#[66, 65, 65, 66, 65, 66]⟩] : Array Value)[(b7 - 48).toNat]? from Blk.cell (Blk.new w 9 _) _]
    obtain ⟨n, hn⟩ : ∃ n, (b7 - 48).toNat = n := ⟨_, rfl⟩
    have hn10 : n < 10 := by omega
    rw [hn]
    match n, hn10 with
    | 0, _ => rfl
    | 1, _ => rfl
    | 2, _ => rfl
    | 3, _ => rfl
    | 4, _ => rfl
    | 5, _ => rfl
    | 6, _ => rfl
    | 7, _ => rfl
    | 8, _ => rfl
    | 9, _ => rfl
  go_enter Tryz.func67, Tryz.ntmps67
  go_wp2
  go_ret
  exact ⟨rfl, below_alloc (Below.refl _ _) _⟩
set_option maxHeartbeats 4000000 in
set_option maxRecDepth 100000 in
theorem sets67_1 (w : World) (b7 : Int) (h0 : 48 ≤ b7) (h1 : b7 ≤ 57) :
    Calls Tryz.prog 67 #[.int .u8 49, .int .u8 b7] w fun e w' => e = .returned (.string (setsE 1 (b7 - 48).toNat)) ∧ Below w.heap.size w w' := by
  have hcell : (w.alloc (.cells #[.string ⟨#[66, 66, 66, 65, 65, 65]⟩, .string ⟨#[66, 66, 65, 66, 65, 65]⟩, .string ⟨#[66, 66, 65, 65, 66, 65]⟩, .string ⟨#[66, 66, 65, 65, 65, 66]⟩, .string ⟨#[66, 65, 66, 66, 65, 65]⟩, .string ⟨#[66, 65, 65, 66, 66, 65]⟩, .string ⟨#[66, 65, 65, 65, 66, 66]⟩, .string ⟨#[66, 65, 66, 65, 66, 65]⟩, .string ⟨#[66, 65, 66, 65, 65, 66]⟩, .string ⟨#[66, 65, 65, 66, 65, 66]⟩] 9)).cell? ⟨w.heap.size, (b7 - 48).toNat, none⟩ = some (.string (tE (b7 - 48).toNat)) := by
    rw [show (w.alloc (.cells #[.string ⟨#[66, 66, 66, 65, 65, 65]⟩, .string ⟨#[66, 66, 65, 66, 65, 65]⟩, .string ⟨#[66, 66, 65, 65, 66, 65]⟩, .string ⟨#[66, 66, 65, 65, 65, 66]⟩, .string ⟨#[66, 65, 66, 66, 65, 65]⟩, .string ⟨#[66, 65, 65, 66, 66, 65]⟩, .string ⟨#[66, 65, 65, 65, 66, 66]⟩, .string ⟨#[66, 65, 66, 65, 66, 65]⟩, .string ⟨#[66, 65, 66, 65, 65, 66]⟩, .string ⟨#[66, 65, 65, 66, 65, 66]⟩] 9)).cell? ⟨w.heap.size, (b7 - 48).toNat, none⟩ = (#[.string ⟨#[66, 66, 66, 65, 65, 65]⟩, .string ⟨#[66, 66, 65, 66, 65, 65]⟩, .string ⟨#[66, 66, 65, 65, 66, 65]⟩, .string ⟨#[66, 66, 65, 65, 65, 66]⟩, .string ⟨#[66, 65, 66, 66, 65, 65]⟩, .string ⟨#[66, 65, 65, 66, 66, 65]⟩, .string ⟨#[66, 65, 65, 65, 66, 66]⟩, .string ⟨#[66, 65, 66, 65, 66, 65]⟩, .string ⟨#[66, 65, 66, 65, 65, 66]⟩, .string ⟨#[66, 65, 65, 66, 65, 66]⟩] : Array Value)[(b7 - 48).toNat]? from Blk.cell (Blk.new w 9 _) _]
    obtain ⟨n, hn⟩ : ∃ n, (b7 - 48).toNat = n := ⟨_, rfl⟩
    have hn10 : n < 10 := by omega
    rw [hn]
    match n, hn10 with
    | 0, _ => rfl
    | 1, _ => rfl
    | 2, _ => rfl
    | 3, _ => rfl
    | 4, _ => rfl
    | 5, _ => rfl
    | 6, _ => rfl
    | 7, _ => rfl
    | 8, _ => rfl
    | 9, _ => rfl
  obtain ⟨f1, f2⟩ := tE_facts ⟨(b7 - 48).toNat, by omega⟩
  obtain ⟨S, hS⟩ : ∃ S, tE (b7 - 48).toNat = S := ⟨_, rfl⟩
  have HR := Aside0.mk (show setsE 1 (b7 - 48).toNat = flp S 6 by unfold setsE; rw [if_neg (by decide), hS])
  rw [HR.out]
  simp only [hS] at f1 f2
  rw [hS] at hcell
  have HF := Aside0.mk f2
  have HSZ := Aside0.mk f1
  have hsi : (S.size : Int) = 6 := by omega
  clear f1 f2 hS HR
  go_enter Tryz.func67, Tryz.ntmps67
  go_wp2_with fail
  obtain ⟨w1, hw1⟩ : ∃ w1, w.alloc (.cells #[.string ⟨#[66, 66, 66, 65, 65, 65]⟩, .string ⟨#[66, 66, 65, 66, 65, 65]⟩, .string ⟨#[66, 66, 65, 65, 66, 65]⟩, .string ⟨#[66, 66, 65, 65, 65, 66]⟩, .string ⟨#[66, 65, 66, 66, 65, 65]⟩, .string ⟨#[66, 65, 65, 66, 66, 65]⟩, .string ⟨#[66, 65, 65, 65, 66, 66]⟩, .string ⟨#[66, 65, 66, 65, 66, 65]⟩, .string ⟨#[66, 65, 66, 65, 65, 66]⟩, .string ⟨#[66, 65, 65, 66, 65, 66]⟩] 9) = w1 := ⟨_, rfl⟩
  have HB := Aside0.mk (show Below w.heap.size w w1 by rw [← hw1]; exact below_alloc (Below.refl _ _) _)
  simp only [hw1]
  clear hcell hw1
  go_loopw [6, 7, 18] (fun ov jv v wr => ∃ i : Nat, i ≤ 6 ∧ v = .int .i64 i ∧ ov = .string (flp S i) ∧ Aside0 (Below w.heap.size w wr)) (fun _ _ v _ => 6 - (intOf v).toNat)
  case atStart => exact ⟨0, by omega, rfl, rfl, HB⟩
  case round =>
    obtain ⟨i, hi, rfl, rfl, HB⟩ := hrel
    by_cases hlt : i < 6
    · have d1 : decide ((i : Int) < 6) = true := decide_eq_true (by omega)
      have his : i < S.size := by have := HSZ.out; omega
      obtain ⟨c, hc⟩ : ∃ c : Int, ((S[i]'his).toNat : Int) = c := ⟨_, rfl⟩
      have hbc : bt S i = c := by rw [← hc, bt_get S i his]
      have hcr : 65 ≤ c ∧ c ≤ 66 := by rw [← hbc]; rcases HF.out ⟨i, hlt⟩ with h | h <;> (simp only at h; omega)
      obtain ⟨hc0, hc1⟩ := hcr
      have hcr := fun W => conv_rune (131 - c) (by omega) (by omega) W
      have hfs := flp_size S i
      obtain ⟨F, hF⟩ : ∃ F, flp S i = F := ⟨_, rfl⟩
      have HFF := Aside0.mk hF
      rw [hF] at hfs
      simp only [hF]
      obtain ⟨ck, hck⟩ : ∃ x : ByteArray, (⟨#[UInt8.ofNat (131 - c).toNat]⟩ : ByteArray) = x := ⟨_, rfl⟩
      have hcs : ck.size = 1 := by rw [← hck]; rfl
      have HCK := Aside0.mk (show flp S (i + 1) = F ++ ck by rw [flp, hF, hbc, hck])
      rw [hck] at hcr
      have c9 : F.size + ck.size ≤ 9223372036854775807 := by omega
      have c9b0 := eq_true c9
      have c9b1 : decide (F.size + ck.size ≤ 9223372036854775807) = true := decide_eq_true c9
      have c9b2 : (9223372036854775807 < F.size + ck.size) = False := eq_false (Nat.not_lt.2 c9)
      clear hbc hck hcs hfs hF
      go_wp2
      go_roundw
      case rel => exact ⟨i + 1, by omega, by go_num, by rw [HCK.out], HB⟩
      case measure => simp [intOf]; omega
    · obtain rfl : i = 6 := by omega
      go_wp2
      go_ret
      exact ⟨rfl, HB.out⟩

/-! ### The encoder of UPC-E, of a whole text -/
def nsL : List (List Int) := [[56, 52, 50, 49, 44, 38, 35, 42, 41, 37], [7, 11, 13, 14, 19, 25, 28, 21, 22, 26]]
def nsE (f c : Int) : Int := rd (nsL.getD f.toNat []) c
def parE (f c : Int) (k : Nat) : Bool := (nsE f c).toNat.testBit (5 - k)
theorem parE_bit (f c : Int) (h0 : 0 ≤ f) (h1 : f ≤ 1) (g0 : 0 ≤ c) (g1 : c ≤ 9) (k : Nat) (hk : k < 6) : (bits BinOp.and IntKind.i64 (nsE f c / 2 ^ (6 - (1 + k))) 1 == 1) = parE f c k := by
  have : ∀ (f : Fin 2) (c : Fin 10) (k : Fin 6), (bits BinOp.and IntKind.i64 (nsE (f.val : Nat) (c.val : Nat) / 2 ^ (6 - (1 + k.val))) 1 == 1) = parE (f.val : Nat) (c.val : Nat) k.val := by decide +kernel
  have h := this ⟨f.toNat, by omega⟩ ⟨c.toNat, by omega⟩ ⟨k, hk⟩
  simp only [show ((f.toNat : Nat) : Int) = f by omega, show ((c.toNat : Nat) : Int) = c by omega] at h
  exact h
theorem setsE_par : ∀ (f : Fin 2) (c : Fin 10), (setsE f.val c.val).size = 6 ∧ ∀ k : Fin 6, bt (setsE f.val c.val) (k.val : Int) = if parE (f.val : Nat) (c.val : Nat) k.val then 66 else 65 := by decide +kernel
theorem num181 (w : World) (f c : Int) (h0 : 0 ≤ f) (h1 : f ≤ 1) (g0 : 0 ≤ c) (g1 : c ≤ 9) : Calls Tryz.prog 181 #[] w fun e w' => ∃ ad c1 ad2 c2, e = .returned (.slice (some ad) 2 c1) ∧ w'.cell? (ad.add f.toNat) = some (.slice (some ad2) 10 c2) ∧ w'.cell? (ad2.add c.toNat) = some (.int .i64 (nsE f c)) ∧ Below w.heap.size w w' := by
  refine (F.oned_upce_NUMSYS_AND_CHECK_DIGIT_PATTERNS.calls nsL w rfl).mono ?_
  rintro e w' ⟨v, rfl, hn, hb⟩
  obtain ⟨A, c1, rfl, _, hc⟩ := Kd.N_reads hn
  obtain ⟨ad, A0, c0, rfl, h1', h2, h3⟩ := F.at_L5 hc f h0 (by show f < ((2 : Nat) : Int); omega)
  have hl : ∀ f : Fin 2, (F.rd_L5 nsL (f.val : Nat)).length = 10 ∧ F.rd_L5 nsL (f.val : Nat) = nsL.getD f.val [] := by decide
  obtain ⟨hl1, hl2⟩ := hl ⟨f.toNat, by omega⟩
  simp only [show ((f.toNat : Nat) : Int) = f by omega] at hl1 hl2
  rw [hl1] at h1' h2 h3
  obtain ⟨ad2, rfl, h4⟩ := Kd.at_int h3 c g0 (by omega)
  rw [hl2] at h4
  exact ⟨ad, c1, ad2, c0, rfl, h1', h4, hb⟩
theorem pat182 (w : World) : Calls Tryz.prog 182 #[] w fun e w' => ∃ A c, e = .returned (.slice A 6 c) ∧ 6 ≤ c ∧ Kd.C (Kd.int .i64) w' A 6 [1, 1, 1, 1, 1, 1] ∧ Below w.heap.size w w' := by
  refine (F.oned_UPCEANReader_END_PATTERN.calls [1, 1, 1, 1, 1, 1] w rfl).mono ?_
  rintro e w' ⟨v, rfl, hn, hb⟩
  obtain ⟨A, c, rfl, hcc, hc⟩ := Kd.R_reads hn
  exact ⟨A, c, rfl, hcc, hc, hb⟩
def lixE (t : ByteArray) (k : Nat) : Nat := (dgt t (1 + k)).toNat + if parE (dgt t 0) (dgt t 7) k then 10 else 0
def leftE (t : ByteArray) (n : Nat) : List Bool := (List.range n).flatMap fun k => bars false (lg (lixE t k))
theorem leftE_next (t : ByteArray) (n : Nat) : leftE t (n + 1) = leftE t n ++ bars false (lg (lixE t n)) := by
  unfold leftE
  rw [List.range_succ, List.flatMap_append]
  simp
theorem lixE_lt (t : ByteArray) (k : Nat) (h : dgt t (1 + k) ≤ 9) : lixE t k < 20 := by
  unfold lixE; split <;> omega
theorem leftE_length (t : ByteArray) (n : Nat) (h : ∀ k < n, dgt t (1 + k) ≤ 9) : (leftE t n).length = 7 * n := by
  induction n with
  | zero => rfl
  | succ n ih =>
    rw [leftE_next, List.length_append, ih (fun k hk => h k (by omega)), (lg_facts _ (lixE_lt t n (h n (by omega)))).2.2]
    omega
def preE (t : ByteArray) (i : Nat) : List Bool := bars true [1, 1, 1] ++ leftE t i
def codeE (t : ByteArray) : List Bool := preE t 6 ++ bars false [1, 1, 1, 1, 1, 1]
theorem preE_length (t : ByteArray) (h : AllDig t 8) (i : Nat) (hi : i ≤ 6) : (preE t i).length = 3 + 7 * i := by
  unfold preE
  rw [List.length_append, leftE_length _ _ (fun k hk => h _ (by omega))]
  rfl
theorem codeE_length (t : ByteArray) (h : AllDig t 8) : (codeE t).length = 51 := by
  unfold codeE
  rw [List.length_append, preE_length t h 6 (by omega)]
  rfl
def z51 : List Bool := List.replicate 51 false
theorem z51_length : z51.length = 51 := by simp [z51]
theorem make_51 (w : World) : (Instr.makeSlice 27 (.int .i64 51) (.int .i64 51)).run Tryz.prog w = .ok (.slice (some ⟨w.heap.size, 0, none⟩) 51 51) (w.alloc (.cells (bools z51).toArray 4)) := make_bool 51 (by omega) w
/-- The texts that are written: eight digits, 0 or 1 ahead, with the right check digit. -/
def FullE (s : ByteArray) : Prop := s.size = 8 ∧ AllDig s 8 ∧ dgt s 0 ≤ 1 ∧ dgt s 7 = ckE s

set_option maxHeartbeats 4000000 in
set_option maxRecDepth 100000 in
theorem encE_ok (w : World) (mv : Value) (t : ByteArray) (h : FullE t) :
    Calls Tryz.prog 178 #[.agg #[], .string t, mv] w fun e w' => ∃ v, e = .returned (.tuple #[v, .nilIface]) ∧ Kd.R Kd.bool 4 w' w.heap.size (fun _ => True) v (codeE t) ∧ Below w.heap.size w w' := by
  obtain ⟨h1, h2, h3, h4⟩ := h
  have HTS := Aside0.mk h1
  have HTA := Aside0.mk h2
  have HD7 := Aside0.mk (show AllDig t 7 from fun i hi => h2 i (by omega))
  have H01 := Aside0.mk h3
  have HCK := Aside0.mk (show dgt (cvT t) 11 = chk (cvT t) 11 by rw [dgt_cv_last, chk_cv, h4])
  have hsI : (t.size : Int) = 8 := by omega
  have hmk := make_51
  clear h1 h2 h3 h4
  go_enter Tryz.func178, Tryz.ntmps178
  go_wp2_with fail
  refine (conv180 _ t HTS.out).mono ?_
  rintro e wy ⟨rfl, hb⟩
  have HBY := Aside0.mk ((below_alloc (Below.refl _ w) (.cells #[] 98)).trans (hb.mono (by simp)))
  clear hb
  go_wp2_with fail
  refine (ck161 _ (cvT t) 11 (cvT_size t) (by omega)).mono ?_
  rintro e wz ⟨hp, hb⟩
  have he : e = .returned (.tuple #[.bool true, .nilIface]) := by
    rcases hp with ⟨_, h⟩ | ⟨h, _⟩
    · rw [h, decide_eq_true HCK.out]
    · exact absurd ((cvT_all t).2 HD7.out) h
  subst he
  have HBZ := Aside0.mk (HBY.out.trans (hb.mono HBY.out.size))
  clear hp hb HBY
  go_wp2_with fail
  clear hsI
  refine (numeric _ t (by have := HTS.out; omega) t.size (Nat.le_refl _) (isDig_all t 8 HTS.out HTA.out) (fun h => absurd h (Nat.lt_irrefl _))).mono ?_
  rintro e w2 ⟨v, rfl, hv, hb2⟩
  obtain rfl : v = .nilIface := by unfold NumPost at hv; rw [if_pos rfl] at hv; exact hv
  have HB2 := Aside0.mk (HBZ.out.trans (hb2.mono HBZ.out.size))
  clear hv hb2 HBZ
  have h0t : 0 < t.size := by have := HTS.out; omega
  obtain ⟨b0, hbt0, hb048, hb057, hbd0⟩ := dgt_at t 8 HTS.out HTA.out 0 (by omega) h0t
  have HBD0 := Aside0.mk hbd0
  have h7t : 7 < t.size := by have := HTS.out; omega
  obtain ⟨b7, hbt7, hb748, hb757, hbd7⟩ := dgt_at t 8 HTS.out HTA.out 7 (by omega) h7t
  have HBD7 := Aside0.mk hbd7
  have hb049 : b0 ≤ 49 := by have := H01.out; rw [hbd0] at this; omega
  clear hbd0 hbd7
  have hn01 : ((b0 - 48 != 0) = false ∧ (b0 - 48 != 1) = true) ∨ ((b0 - 48 != 0) = true ∧ (b0 - 48 != 1) = false) := by
    by_cases h : b0 = 48
    · exact .inl ⟨by rw [h]; rfl, by rw [h]; rfl⟩
    · have : b0 = 49 := by omega
      exact .inr ⟨by rw [this]; rfl, by rw [this]; rfl⟩
  rcases hn01 with ⟨hn0, hn1⟩ | ⟨hn0, hn1⟩
  all_goals
    go_wp2_with fail
    refine (num181 _ (b0 - 48) (b7 - 48) (by omega) (by omega) (by omega) (by omega)).mono ?_
    rintro e w21 ⟨ad1, c1, ad2, c2, rfl, hcell1, hcell2, hb21⟩
    obtain ⟨pv, hpv⟩ : ∃ pv, nsE (b0 - 48) (b7 - 48) = pv := ⟨_, rfl⟩
    rw [hpv] at hcell2
    have HPV := Aside0.mk hpv
    have HB21 := Aside0.mk (HB2.out.trans (hb21.mono HB2.out.size))
    clear hpv hb21 HB2
    go_wp2_with fail
    obtain ⟨gt, hgt⟩ : ∃ gt, w21.heap.size = gt := ⟨_, rfl⟩
    obtain ⟨w3, hw3⟩ : ∃ w3, w21.alloc (.cells (bools z51).toArray 4) = w3 := ⟨_, rfl⟩
    have hbk : Blk w3 gt 4 (bools (put z51 [])).toArray := by rw [← hw3, ← hgt, put_nil]; exact Blk.new _ _ _
    have hb3 : Below w.heap.size w w3 := by rw [← hw3]; exact HB21.out.trans ((below_alloc (Below.refl _ w21) _).mono HB21.out.size)
    have hge : w.heap.size ≤ gt := by rw [← hgt]; exact HB21.out.size
    have HB3 := Aside0.mk hb3
    have HBK := Aside0.mk hbk
    simp only [hw3, hgt]
    clear hb3 hbk hw3 hgt HB21 hmk hcell1 hcell2
    refine (pat163 _).mono ?_
    rintro e w4 ⟨A4, c4, rfl, hc4, hC4, hb4⟩
    have HBK4 := Aside0.mk (HBK.out.below hb4 HBK.out.lt)
    have HB4 := Aside0.mk (HB3.out.trans (hb4.mono HB3.out.size))
    have HC4 := Aside0.mk hC4
    clear hb4 hC4 HBK HB3
    go_wp2_with fail
    refine (appendPat' w4 gt 51 z51 [] A4 c4 [1, 1, 1] true 0 3 rfl rfl HBK4.out z51_length (by omega) (by omega) 3 rfl HC4.out hc4 (by decide) (by omega) (by omega)).mono ?_
    rintro e w5 ⟨rfl, hx, hu⟩
    have HX5 := Aside0.mk hx
    have HB5 := Aside0.mk (HB4.out.trans (hu.below hge HB4.out.size))
    clear hx hu HBK4 HB4 HC4 hc4
    go_wp2
    go_loopw [18, 19] (fun uv v wr => ∃ i : Nat, i ≤ 6 ∧ v = .int .i64 (1 + (i : Int)) ∧ uv = .int .i64 (3 + 7 * (i : Int)) ∧ Aside0 (Blk wr gt 4 (bools (put z51 (preE t i))).toArray) ∧ Aside0 (Below w.heap.size w wr)) (fun _ v _ => 8 - (intOf v).toNat)
    case atStart => exact ⟨0, by omega, rfl, rfl, ⟨by have := HX5.out; simpa [preE, leftE] using this⟩, HB5⟩
    case round =>
      obtain ⟨i, hi, rfl, rfl, HX, HB⟩ := hrel
      clear HX5 HB5
      by_cases hlt : i < 6
      · have d1 : decide (1 + (i : Int) ≤ 6) = true := decide_eq_true (by omega)
        have hit : 1 + i < t.size := by have := HTS.out; omega
        obtain ⟨b, hbt, hb48, hb57, hbd⟩ := dgt_at t 8 HTS.out HTA.out (1 + i) (by omega) hit
        have HBD := Aside0.mk hbd
        clear hbd
        have hpb := parE_bit (b0 - 48) (b7 - 48) (by omega) (by omega) (by omega) (by omega) i hlt
        rw [HPV.out] at hpb
        obtain ⟨P, hP⟩ : ∃ P, parE (b0 - 48) (b7 - 48) i = P := ⟨_, rfl⟩
        rw [hP] at hpb
        have HP := Aside0.mk hP
        clear hP
        cases P
        · have HPR := Aside0.mk HP.out
          go_wp2_with fail
          refine (pats170 _ (b - 48).toNat (by omega)).mono ?_
          rintro e w6 ⟨g6, A6, rfl, hcell, hC7, hb6⟩
          have HX6 := Aside0.mk (HX.out.below hb6 HX.out.lt)
          have HB6 := Aside0.mk (HB.out.trans (hb6.mono HB.out.size))
          have HC7 := Aside0.mk hC7
          clear hC7 hb6 HX HB hpb
          go_wp2_with fail
          obtain ⟨l1, l2, l3⟩ := lg_facts (b - 48).toNat (by omega)
          have hpl := preE_length t HTA.out i (by omega)
          refine (appendPat' w6 gt 51 z51 (preE t i) A6 4 (lg (b - 48).toNat) false (3 + 7 * (i : Int)) 7 (by rw [hpl]; omega) (by rw [l3 false]; rfl) HX6.out z51_length (by omega) (by omega) 4 l1 HC7.out (by omega) l2 (by omega) (by omega)).mono ?_
          rintro e w7 ⟨rfl, hx, hu⟩
          have HX7 := Aside0.mk hx
          have HB7 := Aside0.mk (HB6.out.trans (hu.below hge HB6.out.size))
          clear hx hu HX6 HB6 HC7 hcell l1 l2 l3 hpl
          go_wp2
          go_roundw
          case rel => exact ⟨i + 1, by omega, by go_num, by go_num, ⟨by
            have := HX7.out
            have hlx : lixE t i = (b - 48).toNat := by unfold lixE; rw [HBD0.out, HBD7.out, HPR.out, HBD.out]; simp; try omega
            rw [show preE t (i + 1) = preE t i ++ bars false (lg (b - 48).toNat) by unfold preE; rw [leftE_next, hlx, List.append_assoc]]
            exact this⟩, HB7⟩
          case measure => simp [intOf]; omega
        · have HPR := Aside0.mk HP.out
          go_wp2_with fail
          refine (pats170 _ (b - 48 + 10).toNat (by omega)).mono ?_
          rintro e w6 ⟨g6, A6, rfl, hcell, hC7, hb6⟩
          have HX6 := Aside0.mk (HX.out.below hb6 HX.out.lt)
          have HB6 := Aside0.mk (HB.out.trans (hb6.mono HB.out.size))
          have HC7 := Aside0.mk hC7
          clear hC7 hb6 HX HB hpb
          go_wp2_with fail
          obtain ⟨l1, l2, l3⟩ := lg_facts (b - 48 + 10).toNat (by omega)
          have hpl := preE_length t HTA.out i (by omega)
          refine (appendPat' w6 gt 51 z51 (preE t i) A6 4 (lg (b - 48 + 10).toNat) false (3 + 7 * (i : Int)) 7 (by rw [hpl]; omega) (by rw [l3 false]; rfl) HX6.out z51_length (by omega) (by omega) 4 l1 HC7.out (by omega) l2 (by omega) (by omega)).mono ?_
          rintro e w7 ⟨rfl, hx, hu⟩
          have HX7 := Aside0.mk hx
          have HB7 := Aside0.mk (HB6.out.trans (hu.below hge HB6.out.size))
          clear hx hu HX6 HB6 HC7 hcell l1 l2 l3 hpl
          go_wp2
          go_roundw
          case rel => exact ⟨i + 1, by omega, by go_num, by go_num, ⟨by
            have := HX7.out
            have hlx : lixE t i = (b - 48 + 10).toNat := by unfold lixE; rw [HBD0.out, HBD7.out, HPR.out, HBD.out]; simp; try omega
            rw [show preE t (i + 1) = preE t i ++ bars false (lg (b - 48 + 10).toNat) by unfold preE; rw [leftE_next, hlx, List.append_assoc]]
            exact this⟩, HB7⟩
          case measure => simp [intOf]; omega
      · obtain rfl : i = 6 := by omega
        go_wp2_with fail
        refine (pat182 _).mono ?_
        rintro e w6 ⟨A6, c6, rfl, hc6, hC6, hb6⟩
        have HX6 := Aside0.mk (HX.out.below hb6 HX.out.lt)
        have HB6 := Aside0.mk (HB.out.trans (hb6.mono HB.out.size))
        have HC6 := Aside0.mk hC6
        clear hb6 hC6 HX HB
        go_wp2_with fail
        have hpl := preE_length t HTA.out 6 (by omega)
        refine (appendPat' w6 gt 51 z51 (preE t 6) A6 c6 [1, 1, 1, 1, 1, 1] false 45 6 (by rw [hpl]; rfl) rfl HX6.out z51_length (by omega) (by omega) 6 rfl HC6.out hc6 (by decide) (by omega) (by omega)).mono ?_
        rintro e w7 ⟨rfl, hx, hu⟩
        have HX7 := Aside0.mk hx
        have HB7 := Aside0.mk (HB6.out.trans (hu.below hge HB6.out.size))
        clear hx hu HX6 HB6 HC6 hc6 hpl
        go_wp2
        go_ret2
        have hlen := codeE_length t HTA.out
        refine ⟨_, rfl, ?_, HB7.out⟩
        have hx' : Blk w7 gt 4 (bools (put z51 (codeE t))).toArray := HX7.out
        rw [put_all _ _ (by rw [hlen, z51_length])] at hx'
        exact Kd.R_mono (R_of_blk hx' hlen (by omega) hge) (fun _ _ => trivial)

set_option maxHeartbeats 4000000 in
set_option maxRecDepth 100000 in
theorem encE_no7 (w : World) (mv : Value) (s : ByteArray) (h : s.size = 7) (hd : ¬ AllDig s 7) :
    Calls Tryz.prog 178 #[.agg #[], .string s, mv] w fun e w' => ∃ v x, e = .returned (.tuple #[v, .iface 141 x]) ∧ Below w.heap.size w w' := by
  have HD := Aside0.mk hd
  have HS := Aside0.mk h
  have hsI : (s.size : Int) = 7 := by omega
  have HFE := methFE
  clear hd h
  go_enter Tryz.func178, Tryz.ntmps178
  go_wp2_with fail
  refine (ck160 _ s 7 HS.out (by omega)).mono ?_
  rintro e w1 ⟨hp, hb⟩
  have he : e = .returned (.tuple #[.int .i64 0, .iface 198 (.agg #[.string ⟨#[70, 111, 114, 109, 97, 116, 69, 120, 99, 101, 112, 116, 105, 111, 110]⟩, .nilIface])]) := by
    rcases hp with ⟨h, _⟩ | ⟨_, h⟩
    · exact absurd h HD.out
    · exact h
  subst he
  have HB1 := Aside0.mk ((below_alloc (Below.refl _ w) (.cells #[] 98)).trans (hb.mono (by simp)))
  clear hp hb
  go_wp2_with fail
  refine (errFE _ _).mono ?_
  rintro e w2 ⟨rfl, hb⟩
  have HB2 := Aside0.mk (HB1.out.trans (hb.mono HB1.out.size))
  clear hb HB1
  go_wp2_with (go_at_call 96; refine (newWExc _ _).mono ?_; rintro e w' ⟨x, rfl, hb⟩)
  go_ret2
  exact ⟨_, x, rfl, HB2.out.trans ((below_alloc (Below.refl _ _) _).trans (hb.mono (by simp)) |>.mono HB2.out.size)⟩
set_option maxHeartbeats 4000000 in
set_option maxRecDepth 100000 in
theorem encE_no70 (w : World) (mv : Value) (s t : ByteArray) (h : s.size = 7) (hd : AllDig s 7) (hf : 49 < bt s 0) (ht : t = ckText s 7) :
    Calls Tryz.prog 178 #[.agg #[], .string s, mv] w fun e w' => ∃ v x, e = .returned (.tuple #[v, .iface 141 x]) ∧ Below w.heap.size w w' := by
  have HTS := Aside0.mk (show t.size = 8 by rw [ht, ckText_size s 7 (by omega)])
  have HTA := Aside0.mk (show AllDig t 8 by rw [ht]; exact ckText_all s 7 (by omega) hd)
  have HF := Aside0.mk (show 1 < dgt t 0 by
    rw [ht, ckText_dgt s 7 0 (by omega) (by omega)]
    have := (dgt_ok s 0).1 (hd 0 (by omega))
    unfold dgt
    have e : bt s ((0 : Nat) : Int) = bt s 0 := rfl
    rw [e] at this ⊢
    omega)
  have HT := Aside0.mk ht
  have HD := Aside0.mk hd
  have HS := Aside0.mk h
  have hsI : (s.size : Int) = 7 := by omega
  clear hd h hf ht
  go_enter Tryz.func178, Tryz.ntmps178
  go_wp2_with fail
  refine (ck160 _ s 7 HS.out (by omega)).mono ?_
  rintro e w1 ⟨hp, hb⟩
  have he : e = .returned (.tuple #[.int .i64 (chk s 7), .nilIface]) := by
    rcases hp with ⟨_, h⟩ | ⟨h, _⟩
    · exact h
    · exact absurd HD.out h
  subst he
  have HB1 := Aside0.mk ((below_alloc (Below.refl _ w) (.cells #[] 98)).trans (hb.mono (by simp)))
  clear hp hb
  go_wp2_with fail
  refine (itoaCk _ s 7).mono ?_
  obtain ⟨ck, hck⟩ : ∃ x : ByteArray, (⟨#[UInt8.ofNat (48 + chk s 7).toNat]⟩ : ByteArray) = x := ⟨_, rfl⟩
  have hcs : ck.size = 1 := by rw [← hck]; rfl
  have c9 : s.size + ck.size ≤ 9223372036854775807 := by omega
  have c9b0 := eq_true c9
  have c9b1 : decide (s.size + ck.size ≤ 9223372036854775807) = true := decide_eq_true c9
  have c9b2 : (9223372036854775807 < s.size + ck.size) = False := eq_false (Nat.not_lt.2 c9)
  have HTT := Aside0.mk (show s ++ ck = t by rw [HT.out]; unfold ckText; rw [own_all s 7 HS.out, hck])
  rw [hck]
  rintro e wz ⟨rfl, hb⟩
  have HBZ := Aside0.mk (HB1.out.trans (hb.mono HB1.out.size))
  clear hb HB1 hck hcs
  go_wp2_with fail
  rw [HTT.out]
  clear c9 c9b0 c9b1 c9b2 hsI
  refine (numeric _ t (by have := HTS.out; omega) t.size (Nat.le_refl _) (isDig_all t 8 HTS.out HTA.out) (fun h => absurd h (Nat.lt_irrefl _))).mono ?_
  rintro e w2 ⟨v, rfl, hv, hb2⟩
  obtain rfl : v = .nilIface := by unfold NumPost at hv; rw [if_pos rfl] at hv; exact hv
  have HB2 := Aside0.mk (HBZ.out.trans (hb2.mono HBZ.out.size))
  clear hv hb2 HBZ
  have h0t : 0 < t.size := by have := HTS.out; omega
  obtain ⟨b0, hbt0, hb048, hb057, hbd0⟩ := dgt_at t 8 HTS.out HTA.out 0 (by omega) h0t
  have hn0 : (b0 - 48 != 0) = true := by rw [bne_iff_ne]; have := HF.out; omega
  have hn1 : (b0 - 48 != 1) = true := by rw [bne_iff_ne]; have := HF.out; omega
  clear hbd0
  go_wp2_with (go_at_call 96; refine (newWExc _ _).mono ?_; rintro e w' ⟨x, rfl, hb⟩)
  go_ret2
  exact ⟨_, x, rfl, HB2.out.trans ((below_alloc (Below.refl _ _) _).trans (hb.mono (by simp)) |>.mono HB2.out.size)⟩
set_option maxHeartbeats 4000000 in
set_option maxRecDepth 100000 in
theorem encE_no8 (w : World) (mv : Value) (s : ByteArray) (h : s.size = 8) (hd : ¬ AllDig s 7) :
    Calls Tryz.prog 178 #[.agg #[], .string s, mv] w fun e w' => ∃ v x, e = .returned (.tuple #[v, .iface 141 x]) ∧ Below w.heap.size w w' := by
  have HD := Aside0.mk hd
  have HS := Aside0.mk h
  have hsI : (s.size : Int) = 8 := by omega
  clear hd h
  go_enter Tryz.func178, Tryz.ntmps178
  go_wp2_with fail
  refine (conv180 _ s HS.out).mono ?_
  rintro e wy ⟨rfl, hb⟩
  have HBY := Aside0.mk ((below_alloc (Below.refl _ w) (.cells #[] 98)).trans (hb.mono (by simp)))
  clear hb
  go_wp2_with fail
  refine (ck161 _ (cvT s) 11 (cvT_size s) (by omega)).mono ?_
  rintro e wz ⟨hp, hb⟩
  have he : e = .returned (.tuple #[.bool false, .iface 198 (.agg #[.string ⟨#[70, 111, 114, 109, 97, 116, 69, 120, 99, 101, 112, 116, 105, 111, 110]⟩, .nilIface])]) := by
    rcases hp with ⟨h, _⟩ | ⟨_, h⟩
    · exact absurd ((cvT_all s).1 h) HD.out
    · exact h
  subst he
  have HB1 := Aside0.mk (HBY.out.trans (hb.mono HBY.out.size))
  clear hp hb HBY
  go_wp2_with (go_at_call 96; refine (newWExc _ _).mono ?_; rintro e w' ⟨x, rfl, hb⟩)
  go_ret2
  exact ⟨_, x, rfl, HB1.out.trans ((below_alloc (Below.refl _ _) _).trans (hb.mono (by simp)) |>.mono HB1.out.size)⟩
set_option maxHeartbeats 4000000 in
set_option maxRecDepth 100000 in
theorem encE_no80 (w : World) (mv : Value) (s : ByteArray) (h : s.size = 8) (hd : AllDig s 7) (hck : dgt s 7 ≠ ckE s) :
    Calls Tryz.prog 178 #[.agg #[], .string s, mv] w fun e w' => ∃ v x, e = .returned (.tuple #[v, .iface 141 x]) ∧ Below w.heap.size w w' := by
  have HD := Aside0.mk hd
  have HCK := Aside0.mk (show dgt (cvT s) 11 ≠ chk (cvT s) 11 by rw [dgt_cv_last, chk_cv]; exact hck)
  have HS := Aside0.mk h
  have hsI : (s.size : Int) = 8 := by omega
  clear hd h hck
  go_enter Tryz.func178, Tryz.ntmps178
  go_wp2_with fail
  refine (conv180 _ s HS.out).mono ?_
  rintro e wy ⟨rfl, hb⟩
  have HBY := Aside0.mk ((below_alloc (Below.refl _ w) (.cells #[] 98)).trans (hb.mono (by simp)))
  clear hb
  go_wp2_with fail
  refine (ck161 _ (cvT s) 11 (cvT_size s) (by omega)).mono ?_
  rintro e wz ⟨hp, hb⟩
  have he : e = .returned (.tuple #[.bool false, .nilIface]) := by
    rcases hp with ⟨_, h⟩ | ⟨h, _⟩
    · rw [h, decide_eq_false HCK.out]
    · exact absurd ((cvT_all s).2 HD.out) h
  subst he
  have HB1 := Aside0.mk (HBY.out.trans (hb.mono HBY.out.size))
  clear hp hb HBY
  go_wp2_with (go_at_call 96; refine (newWExc _ _).mono ?_; rintro e w' ⟨x, rfl, hb⟩)
  go_ret2
  exact ⟨_, x, rfl, HB1.out.trans ((below_alloc (Below.refl _ _) _).trans (hb.mono (by simp)) |>.mono HB1.out.size)⟩
set_option maxHeartbeats 4000000 in
set_option maxRecDepth 100000 in
theorem encE_no81 (w : World) (mv : Value) (t : ByteArray) (h : t.size = 8) (hd : AllDig t 8) (hck : dgt t 7 = ckE t) (hf : 1 < dgt t 0) :
    Calls Tryz.prog 178 #[.agg #[], .string t, mv] w fun e w' => ∃ v x, e = .returned (.tuple #[v, .iface 141 x]) ∧ Below w.heap.size w w' := by
  have HTA := Aside0.mk hd
  have HD7 := Aside0.mk (show AllDig t 7 from fun i hi => hd i (by omega))
  have HCK := Aside0.mk (show dgt (cvT t) 11 = chk (cvT t) 11 by rw [dgt_cv_last, chk_cv]; exact hck)
  have HTS := Aside0.mk h
  have HF := Aside0.mk hf
  have hsI : (t.size : Int) = 8 := by omega
  clear hd h hck hf
  go_enter Tryz.func178, Tryz.ntmps178
  go_wp2_with fail
  refine (conv180 _ t HTS.out).mono ?_
  rintro e wy ⟨rfl, hb⟩
  have HBY := Aside0.mk ((below_alloc (Below.refl _ w) (.cells #[] 98)).trans (hb.mono (by simp)))
  clear hb
  go_wp2_with fail
  refine (ck161 _ (cvT t) 11 (cvT_size t) (by omega)).mono ?_
  rintro e wz ⟨hp, hb⟩
  have he : e = .returned (.tuple #[.bool true, .nilIface]) := by
    rcases hp with ⟨_, h⟩ | ⟨h, _⟩
    · rw [h, decide_eq_true HCK.out]
    · exact absurd ((cvT_all t).2 HD7.out) h
  subst he
  have HBZ := Aside0.mk (HBY.out.trans (hb.mono HBY.out.size))
  clear hp hb HBY
  go_wp2_with fail
  clear hsI
  refine (numeric _ t (by have := HTS.out; omega) t.size (Nat.le_refl _) (isDig_all t 8 HTS.out HTA.out) (fun h => absurd h (Nat.lt_irrefl _))).mono ?_
  rintro e w2 ⟨v, rfl, hv, hb2⟩
  obtain rfl : v = .nilIface := by unfold NumPost at hv; rw [if_pos rfl] at hv; exact hv
  have HB2 := Aside0.mk (HBZ.out.trans (hb2.mono HBZ.out.size))
  clear hv hb2 HBZ
  have h0t : 0 < t.size := by have := HTS.out; omega
  obtain ⟨b0, hbt0, hb048, hb057, hbd0⟩ := dgt_at t 8 HTS.out HTA.out 0 (by omega) h0t
  have hn0 : (b0 - 48 != 0) = true := by rw [bne_iff_ne]; have := HF.out; omega
  have hn1 : (b0 - 48 != 1) = true := by rw [bne_iff_ne]; have := HF.out; omega
  clear hbd0
  go_wp2_with (go_at_call 96; refine (newWExc _ _).mono ?_; rintro e w' ⟨x, rfl, hb⟩)
  go_ret2
  exact ⟨_, x, rfl, HB2.out.trans ((below_alloc (Below.refl _ _) _).trans (hb.mono (by simp)) |>.mono HB2.out.size)⟩
theorem encE_no (w : World) (mv : Value) (s : ByteArray) (hm : s.size ≤ 2147483647) (h7 : ¬ (s.size = 7 ∧ AllDig s 7 ∧ bt s 0 ≤ 49)) (h8 : ¬ FullE s) :
    Calls Tryz.prog 178 #[.agg #[], .string s, mv] w fun e w' => ∃ v x, e = .returned (.tuple #[v, .iface 141 x]) ∧ Below w.heap.size w w' := by
  by_cases c7 : s.size = 7
  · by_cases d7 : AllDig s 7
    · exact encE_no70 w mv s _ c7 d7 (by
        rcases Classical.em (49 < bt s 0) with h | h
        · exact h
        · exact absurd ⟨c7, d7, by omega⟩ h7) rfl
    · exact encE_no7 w mv s c7 d7
  by_cases c8 : s.size = 8
  · by_cases d7 : AllDig s 7
    · by_cases k : dgt s 7 = ckE s
      · have d8 : AllDig s 8 := by
          intro i hi
          by_cases e : i = 7
          · subst e; rw [k]; exact (ckE_range s).2
          · exact d7 i (by omega)
        exact encE_no81 w mv s c8 d8 k (by
          rcases Classical.em (1 < dgt s 0) with h | h
          · exact h
          · exact absurd ⟨c8, d8, by omega, k⟩ h8)
      · exact encE_no80 w mv s c8 d7 k
    · exact encE_no8 w mv s c8 d7
  have d1 : ((s.size : Int) == 7) = false := beq_eq_false_iff_ne.2 (by omega)
  have d2 : ((s.size : Int) == 8) = false := beq_eq_false_iff_ne.2 (by omega)
  clear h7 h8 c7 c8
  go_enter Tryz.func178, Tryz.ntmps178
  go_wp2_with (go_at_call 96; refine (newWExc _ _).mono ?_; rintro e w' ⟨x, rfl, hb⟩)
  go_ret2
  exact ⟨_, x, rfl, (below_alloc (below_alloc (Below.refl _ w) (.cells #[] 98)) _).trans (hb.mono (by simp; omega))⟩

theorem wideI_ext (s : ByteArray) (h : 7 ≤ s.size) : wideI (s.extract 0 7) = wideI s := by
  have h0 := bt_extract s 7 0 h (by omega)
  have h1 := bt_extract s 7 1 h (by omega)
  have h2 := bt_extract s 7 2 h (by omega)
  have h3 := bt_extract s 7 3 h (by omega)
  have h4 := bt_extract s 7 4 h (by omega)
  have h5 := bt_extract s 7 5 h (by omega)
  have h6 := bt_extract s 7 6 h (by omega)
  simp only [Int.natCast_zero, Int.natCast_one, Int.cast_ofNat_Int] at h0 h1 h2 h3 h4 h5 h6
  unfold wideI
  rw [show bt (s.extract 0 7) 0 = bt s 0 from h0, show bt (s.extract 0 7) 1 = bt s 1 from h1, show bt (s.extract 0 7) 2 = bt s 2 from h2, show bt (s.extract 0 7) 3 = bt s 3 from h3, show bt (s.extract 0 7) 4 = bt s 4 from h4, show bt (s.extract 0 7) 5 = bt s 5 from h5, show bt (s.extract 0 7) 6 = bt s 6 from h6]
theorem wideT_ext (s : ByteArray) (h : 7 ≤ s.size) : wideT (s.extract 0 7) = wideT s := by unfold wideT; rw [wideI_ext s h]
def ckTextE (s : ByteArray) : ByteArray := s.extract 0 7 ++ ⟨#[UInt8.ofNat (48 + ckE s).toNat]⟩
theorem eq_lastE (s : ByteArray) (m : Nat) (C : Int) (hr : 0 ≤ C ∧ C ≤ 9) (h : s.size = m + 1) (hd : dgt s m ≤ 9) : ((s.extract m s.size).toList == (⟨#[UInt8.ofNat (48 + C).toNat]⟩ : ByteArray).toList) = decide (dgt s m = C) := by
  have hms : m < s.size := by omega
  have hl : m < s.data.toList.length := by rw [data_length]; exact hms
  have hb := (dgt_ok s m).1 hd
  have hbr := bt_range s m
  have hg := bt_get s m hms
  have e1 : (s.extract m s.size).toList = [s[m]'hms] := by
    rw [ba_toList, Lib.extract_data, show s.size - m = 1 by omega, List.drop_eq_getElem_cons hl]
    rfl
  have e2 : (⟨#[UInt8.ofNat (48 + C).toNat]⟩ : ByteArray).toList = [UInt8.ofNat (48 + C).toNat] := by rw [ba_toList]
  rw [e1, e2, Bool.eq_iff_iff, beq_iff_eq, decide_eq_true_iff, List.cons.injEq, and_iff_left rfl, ← UInt8.toNat_inj]
  have e3 : (UInt8.ofNat (48 + C).toNat).toNat = (48 + C).toNat := by
    show (48 + C).toNat % 256 = _
    omega
  rw [e3]
  unfold dgt
  omega
set_option maxHeartbeats 2000000 in
set_option maxRecDepth 100000 in
theorem odcE_bad (w : World) (s : ByteArray) (h1 : ¬ (s.size = 7 ∧ AllDig s 7)) (h2 : ¬ (s.size = 8 ∧ AllDig s 8)) :
    Calls Tryz.prog 40 #[.int .i64 15, .string s] w fun e w' => e = .returned (.tuple #[.string ⟨#[]⟩, .bool false]) ∧ Below w.heap.size w w' := by
  have T1 := Aside0.mk (fun W => digs63 W s 7 7 rfl (by omega) false (by simp only [Bool.false_eq_true, false_iff]; exact h1))
  have T2 := Aside0.mk (fun W => digs63 W s 8 8 rfl (by omega) false (by simp only [Bool.false_eq_true, false_iff]; exact h2))
  clear h1 h2
  go_enter Tryz.func40, Tryz.ntmps40
  go_wp2_with fail
  refine (T1.out _).mono ?_
  rintro e w1 ⟨rfl, ⟨n1, rfl⟩⟩
  go_wp2_with fail
  refine (T2.out _).mono ?_
  rintro e w2 ⟨rfl, ⟨n2, rfl⟩⟩
  go_wp2
  go_ret2
  exact ⟨rfl, (show Drawn0 w _ from by first | exact ⟨_, rfl⟩ | (repeat (first | exact Drawn0.refl _ | apply Drawn0.step))).below⟩
set_option maxHeartbeats 2000000 in
set_option maxRecDepth 100000 in
theorem odcE_bad0 (w : World) (s : ByteArray) (h1 : s.size = 7 ∧ AllDig s 7) (hf : 49 < bt s 0) :
    Calls Tryz.prog 40 #[.int .i64 15, .string s] w fun e w' => e = .returned (.tuple #[.string ⟨#[]⟩, .bool false]) ∧ Below w.heap.size w w' := by
  have T1 := Aside0.mk (fun W => digs63 W s 7 7 rfl (by omega) true (by simp only [true_iff]; exact h1))
  have h0s : 0 < s.size := by have := h1.1; omega
  obtain ⟨c0, hc0⟩ : ∃ c : Int, ((s[0]'h0s).toNat : Int) = c := ⟨_, rfl⟩
  have hbc : bt s 0 = c0 := by rw [← hc0]; exact (bt_get s 0 h0s).symm
  rw [hbc] at hf
  clear hbc
  have dcf : decide ((49 : Int) < c0) = true := decide_eq_true hf
  clear h1 hf
  go_enter Tryz.func40, Tryz.ntmps40
  go_wp2_with fail
  refine (T1.out _).mono ?_
  rintro e w1 ⟨rfl, ⟨n1, rfl⟩⟩
  go_wp2
  go_ret2
  exact ⟨rfl, (show Drawn0 w _ from by first | exact ⟨_, rfl⟩ | (repeat (first | exact Drawn0.refl _ | apply Drawn0.step))).below⟩
set_option maxHeartbeats 2000000 in
set_option maxRecDepth 100000 in
theorem odcE_bad1 (w : World) (s : ByteArray) (h2 : s.size = 8 ∧ AllDig s 8) (hf : 49 < bt s 0) :
    Calls Tryz.prog 40 #[.int .i64 15, .string s] w fun e w' => e = .returned (.tuple #[.string ⟨#[]⟩, .bool false]) ∧ Below w.heap.size w w' := by
  have T1 := Aside0.mk (fun W => digs63 W s 7 7 rfl (by omega) false (by simp only [Bool.false_eq_true, false_iff]; omega))
  have T2 := Aside0.mk (fun W => digs63 W s 8 8 rfl (by omega) true (by simp only [true_iff]; exact h2))
  have h0s : 0 < s.size := by have := h2.1; omega
  obtain ⟨c0, hc0⟩ : ∃ c : Int, ((s[0]'h0s).toNat : Int) = c := ⟨_, rfl⟩
  have hbc : bt s 0 = c0 := by rw [← hc0]; exact (bt_get s 0 h0s).symm
  rw [hbc] at hf
  clear hbc
  have dcf : decide ((49 : Int) < c0) = true := decide_eq_true hf
  clear h2 hf
  go_enter Tryz.func40, Tryz.ntmps40
  go_wp2_with fail
  refine (T1.out _).mono ?_
  rintro e w1 ⟨rfl, ⟨n1, rfl⟩⟩
  go_wp2_with fail
  refine (T2.out _).mono ?_
  rintro e w2 ⟨rfl, ⟨n2, rfl⟩⟩
  go_wp2
  go_ret2
  exact ⟨rfl, (show Drawn0 w _ from by first | exact ⟨_, rfl⟩ | (repeat (first | exact Drawn0.refl _ | apply Drawn0.step))).below⟩
set_option maxHeartbeats 2000000 in
set_option maxRecDepth 100000 in
theorem odcE_own (w : World) (s : ByteArray) (h1 : s.size = 7) (h2 : AllDig s 7) (hf : bt s 0 ≤ 49) :
    Calls Tryz.prog 40 #[.int .i64 15, .string s] w fun e w' => e = .returned (.tuple #[.string (ckTextE s), .bool true]) ∧ Below w.heap.size w w' := by
  have T1 := Aside0.mk (fun W => digs63 W s 7 7 rfl (by omega) true (by simp only [true_iff]; exact ⟨h1, h2⟩))
  have T3 := Aside0.mk (fun W => ck64 W (s.extract 0 7) 7 (by rw [ByteArray.size_extract]; omega) (by omega) ((allDig_extract s 7 (by omega)).2 h2))
  skip
  have h0s : 0 < s.size := by omega
  obtain ⟨c0, hc0⟩ : ∃ c : Int, ((s[0]'h0s).toNat : Int) = c := ⟨_, rfl⟩
  have hbc : bt s 0 = c0 := by rw [← hc0]; exact (bt_get s 0 h0s).symm
  rw [hbc] at hf
  clear hbc
  have dcf : decide ((49 : Int) < c0) = false := decide_eq_false (by omega)
  have T4 := Aside0.mk (fun W => wide65 W (s.extract 0 7) (by rw [ByteArray.size_extract]; omega) ((allDig_extract s 7 (by omega)).2 (fun i hi => h2 i (by omega))))
  rw [wideT_ext s (by omega)] at T4
  have T5 := Aside0.mk (fun W => ck64 W (wideT s) 11 (wideT_size s) (by omega) ((wideT_all s).2 (fun i hi => h2 i (by omega))))
  have hce : chk (wideT s) 11 = ckE s := rfl
  rw [hce] at T5
  obtain ⟨wt, hwt⟩ : ∃ x, wideT s = x := ⟨_, rfl⟩
  rw [hwt] at T4 T5
  have HS := Aside0.mk h1
  have hsi : (s.size : Int) = 7 := by omega
  clear hf hce hwt h1 h2
  go_enter Tryz.func40, Tryz.ntmps40
  go_wp2_with fail
  refine (T1.out _).mono ?_
  rintro e w1 ⟨rfl, ⟨n1, rfl⟩⟩
  go_wp2_with fail
  refine (T3.out _).mono ?_
  rintro e w2 ⟨rfl, hb2⟩
  have HB2 := Aside0.mk ((show Drawn0 w _ from ⟨_, rfl⟩).below.trans (hb2.mono (by simp)))
  clear hb2
  go_wp2_with fail
  refine (T4.out _).mono ?_
  rintro e w3 ⟨rfl, ⟨n3, rfl⟩⟩
  go_wp2_with fail
  refine (T5.out _).mono ?_
  rintro e w4 ⟨rfl, hb4⟩
  have HB4 := Aside0.mk (HB2.out.trans (((show Drawn0 w2 _ from ⟨_, rfl⟩).below.trans (hb4.mono (by simp))).mono HB2.out.size))
  clear hb4 HB2
  obtain ⟨own, hown⟩ : ∃ x, s.extract 0 7 = x := ⟨_, rfl⟩
  obtain ⟨ck, hck⟩ : ∃ x : ByteArray, (⟨#[UInt8.ofNat (48 + ckE s).toNat]⟩ : ByteArray) = x := ⟨_, rfl⟩
  have hos : own.size = 7 := by rw [← hown, ByteArray.size_extract]; have := HS.out; omega
  have hcs : ck.size = 1 := by rw [← hck]; rfl
  have c9 : own.size + ck.size ≤ 9223372036854775807 := by omega
  have c9b0 := eq_true c9
  have c9b1 : decide (own.size + ck.size ≤ 9223372036854775807) = true := decide_eq_true c9
  have c9b2 : (9223372036854775807 < own.size + ck.size) = False := eq_false (Nat.not_lt.2 c9)
  have HW := Aside0.mk (show ckTextE s = own ++ ck by unfold ckTextE; rw [hown, hck])
  rw [hown, hck]
  clear hown hck hos hcs
  go_wp2_with fail
  first | go_quiet (fail) | skip
  all_goals try go_wp2
  go_ret2
  exact ⟨by rw [HW.out]; rfl, HB4.out.trans ((show Drawn0 w4 _ from ⟨_, rfl⟩).below.mono HB4.out.size)⟩
set_option maxHeartbeats 2000000 in
set_option maxRecDepth 100000 in
theorem odcE_all (w : World) (s : ByteArray) (h1 : s.size = 8) (h2 : AllDig s 8) (hf : bt s 0 ≤ 49) :
    Calls Tryz.prog 40 #[.int .i64 15, .string s] w fun e w' => e = .returned (.tuple #[.string (ckTextE s), .bool (decide (dgt s 7 = ckE s))]) ∧ Below w.heap.size w w' := by
  have h7 : AllDig s 7 := fun i hi => h2 i (by omega)
  have T1 := Aside0.mk (fun W => digs63 W s 7 7 rfl (by omega) false (by simp only [Bool.false_eq_true, false_iff]; omega))
  have T2 := Aside0.mk (fun W => digs63 W s 8 8 rfl (by omega) true (by simp only [true_iff]; exact ⟨h1, h2⟩))
  have T3 := Aside0.mk (fun W => ck64 W (s.extract 0 7) 7 (by rw [ByteArray.size_extract]; omega) (by omega) ((allDig_extract s 7 (by omega)).2 h7))
  skip
  have h0s : 0 < s.size := by omega
  obtain ⟨c0, hc0⟩ : ∃ c : Int, ((s[0]'h0s).toNat : Int) = c := ⟨_, rfl⟩
  have hbc : bt s 0 = c0 := by rw [← hc0]; exact (bt_get s 0 h0s).symm
  rw [hbc] at hf
  clear hbc
  have dcf : decide ((49 : Int) < c0) = false := decide_eq_false (by omega)
  have T4 := Aside0.mk (fun W => wide65 W (s.extract 0 7) (by rw [ByteArray.size_extract]; omega) ((allDig_extract s 7 (by omega)).2 (fun i hi => h2 i (by omega))))
  rw [wideT_ext s (by omega)] at T4
  have T5 := Aside0.mk (fun W => ck64 W (wideT s) 11 (wideT_size s) (by omega) ((wideT_all s).2 (fun i hi => h2 i (by omega))))
  have hce : chk (wideT s) 11 = ckE s := rfl
  rw [hce] at T5
  obtain ⟨wt, hwt⟩ : ∃ x, wideT s = x := ⟨_, rfl⟩
  rw [hwt] at T4 T5
  have HS := Aside0.mk h1
  have HA := Aside0.mk h2
  have hsi : (s.size : Int) = 8 := by omega
  clear hf hce hwt h1 h2 h7
  go_enter Tryz.func40, Tryz.ntmps40
  go_wp2_with fail
  refine (T1.out _).mono ?_
  rintro e w1 ⟨rfl, ⟨n1, rfl⟩⟩
  go_wp2_with fail
  refine (T2.out _).mono ?_
  rintro e w2 ⟨rfl, ⟨n2, rfl⟩⟩
  go_wp2_with fail
  refine (T3.out _).mono ?_
  rintro e w2 ⟨rfl, hb2⟩
  have HB2 := Aside0.mk ((show Drawn0 w _ from by first | exact ⟨_, rfl⟩ | exact ⟨_, World.drewN_drewN _ _ _⟩).below.trans (hb2.mono (by simp)))
  clear hb2
  go_wp2_with fail
  refine (T4.out _).mono ?_
  rintro e w3 ⟨rfl, ⟨n3, rfl⟩⟩
  go_wp2_with fail
  refine (T5.out _).mono ?_
  rintro e w4 ⟨rfl, hb4⟩
  have HB4 := Aside0.mk (HB2.out.trans (((show Drawn0 w2 _ from ⟨_, rfl⟩).below.trans (hb4.mono (by simp))).mono HB2.out.size))
  clear hb4 HB2
  obtain ⟨own, hown⟩ : ∃ x, s.extract 0 7 = x := ⟨_, rfl⟩
  obtain ⟨ck, hck⟩ : ∃ x : ByteArray, (⟨#[UInt8.ofNat (48 + ckE s).toNat]⟩ : ByteArray) = x := ⟨_, rfl⟩
  have hos : own.size = 7 := by rw [← hown, ByteArray.size_extract]; have := HS.out; omega
  have hcs : ck.size = 1 := by rw [← hck]; rfl
  have c9 : own.size + ck.size ≤ 9223372036854775807 := by omega
  have c9b0 := eq_true c9
  have c9b1 : decide (own.size + ck.size ≤ 9223372036854775807) = true := decide_eq_true c9
  have c9b2 : (9223372036854775807 < own.size + ck.size) = False := eq_false (Nat.not_lt.2 c9)
  have HCK := Aside0.mk hck
  have HW := Aside0.mk (show ckTextE s = own ++ ck by unfold ckTextE; rw [hown, hck])
  rw [hown, hck]
  clear hown hck hos hcs
  go_wp2_with fail
  first | go_quiet (fail) | skip
  all_goals try go_wp2
  go_ret2
  refine ⟨?_, HB4.out.trans ((show Drawn0 w4 _ from ⟨_, rfl⟩).below.mono HB4.out.size)⟩
  rw [HW.out, ← eq_lastE s 7 (ckE s) (ckE_range s) HS.out (HA.out 7 (by omega)), HCK.out]
  rfl

set_option maxHeartbeats 4000000 in
set_option maxRecDepth 100000 in
theorem mod15 (w : World) (t : ByteArray) (hts : t.size = 8) (hta : AllDig t 8) (h01 : dgt t 0 ≤ 1) :
    Calls Tryz.prog 44 #[.int .i64 15, .string t] w fun e w' => ∃ v, e = .returned v ∧ Kd.R Kd.bool 4 w' w.heap.size (fun _ => True) v (codeE t) ∧ Below w.heap.size w w' := by
  have HTS := Aside0.mk hts
  have HTA := Aside0.mk hta
  have hsi : (t.size : Int) = 8 := by omega
  have h0t : 0 < t.size := by omega
  obtain ⟨b0, hbt0, hb048, hb057, hbd0⟩ := dgt_at t 8 hts hta 0 (by omega) h0t
  have h7t : 7 < t.size := by omega
  obtain ⟨b7, hbt7, hb748, hb757, hbd7⟩ := dgt_at t 8 hts hta 7 (by omega) h7t
  have hb049 : b0 ≤ 49 := by omega
  have hset : ∀ W : World, Calls Tryz.prog 67 #[.int .u8 b0, .int .u8 b7] W fun e w' => e = .returned (.string (setsE (b0 - 48).toNat (b7 - 48).toNat)) ∧ Below W.heap.size W w' := by
    intro W
    by_cases h : b0 = 48
    · rw [h]; exact sets67_0 W b7 hb748 hb757
    · obtain rfl : b0 = 49 := by omega
      exact sets67_1 W b7 hb748 hb757
  have HSET := Aside0.mk hset
  obtain ⟨hss, hsb⟩ := setsE_par ⟨(b0 - 48).toNat, by omega⟩ ⟨(b7 - 48).toNat, by omega⟩
  simp only [show (((b0 - 48).toNat : Nat) : Int) = b0 - 48 by omega, show (((b7 - 48).toNat : Nat) : Int) = b7 - 48 by omega] at hss hsb
  have HSS := Aside0.mk hss
  have HSB := Aside0.mk hsb
  have HD0 := Aside0.mk (show dgt t 0 = b0 - 48 from hbd0)
  have HD7 := Aside0.mk (show dgt t 7 = b7 - 48 from hbd7)
  clear hts hta hset hss hsb hbd0 hbd7 h01
  go_enter Tryz.func44, Tryz.ntmps44
  go_wp2_with fail
  refine (bars66 w _ _ ⟨#[49, 49, 49]⟩ [] true (bars true [1, 1, 1]) (by decide +kernel) (by decide) (by simp) (Below.refl _ _) (Kd.R_nil _ _ _ _ _)).mono ?_
  rintro e w1 ⟨v1, rfl, hr1, hb1⟩
  have HR1 := Aside0.mk hr1
  have HB1 := Aside0.mk hb1
  clear hr1 hb1
  go_wp2_with fail
  go_region_with (go_at_call 67; refine (HSET.out _).mono ?_; rintro e w' ⟨rfl, hb2⟩)
  all_goals
    have HR2 := Aside0.mk (Kd.R_below (by first | exact HR1.out | exact Kd.R_drew HR1.out | exact Kd.R_drewN HR1.out _) hb2)
    have HB2 := Aside0.mk (HB1.out.trans ((show Below w1.heap.size w1 _ from ⟨hb2.os, hb2.tape, hb2.output, hb2.size, hb2.block⟩).mono HB1.out.size))
    clear hb2
    go_wp2_with fail
    obtain ⟨st, hst⟩ : ∃ x, setsE (b0 - 48).toNat (b7 - 48).toNat = x := ⟨_, rfl⟩
    rw [hst] at HSS HSB
    rw [hst]
    clear hst HSET
    go_loopw [5, 21] (fun rv v wr => ∃ i : Nat, i ≤ 6 ∧ v = .int .i64 i ∧ Aside0 (Kd.R Kd.bool 4 wr w.heap.size (fun _ => True) rv (preE t i)) ∧ Aside0 (Below w.heap.size w wr)) (fun _ v _ => 6 - (intOf v).toNat)
    case atStart => exact ⟨0, by omega, rfl, ⟨by have := HR2.out; simpa [preE, leftE] using this⟩, HB2⟩
    case round =>
      obtain ⟨i, hi, rfl, HR, HB⟩ := hrel
      clear HR1 HB1 HR2 HB2
      by_cases hlt : i < 6
      · have d1 : decide ((i : Int) < 6) = true := decide_eq_true (by omega)
        have hit : 1 + i < t.size := by have := HTS.out; omega
        obtain ⟨b, hbt, hb48, hb57, hbd⟩ := dgt_at t 8 HTS.out HTA.out (1 + i) (by omega) hit
        have HBD := Aside0.mk hbd
        have hsi2 : i < st.size := by have := HSS.out; omega
        have hsb0 : ((st[i]'hsi2).toNat : Int) = if parE (b0 - 48) (b7 - 48) i then 66 else 65 := by rw [bt_get st i hsi2]; exact HSB.out ⟨i, hlt⟩
        have hpl : (preE t i).length ≤ 900000 := by rw [preE_length t HTA.out i (by omega)]; omega
        clear hbd
        obtain ⟨P, hP⟩ : ∃ P, parE (b0 - 48) (b7 - 48) i = P := ⟨_, rfl⟩
        cases P
        · have hsv : ((st[i]'hsi2).toNat : Int) = 65 := by rw [hsb0, hP]; rfl
          have HPR := Aside0.mk hP
          clear hsb0 hP
          have k1 : IntKind.i64.wrap (1 + (i : Int)) = 1 + (i : Int) := IntWalk.i64_in _ (by omega)
          have k2 : (0 : Int) ≤ 1 + (i : Int) := by omega
          have k4 : 1 + (i : Int) < 8 := by omega
          have k3 : (1 + (i : Int)).toNat = 1 + i := by omega
          go_wp2_with fail
          go_region_with (go_at_call 68; refine (dig68 w _ _ (preE t i) b 65 false (Or.inl ⟨rfl, rfl⟩) (by omega) (by omega) (by assumption) ?side1 ?side2).mono ?_; (case side1 => repeat (first | exact HB.out | apply below_alloc | apply pw_below_drewN | apply below_drew1)); (case side2 => repeat (first | exact HR.out | (with_reducible refine Kd.R_drewN ?_ _) | (with_reducible refine Kd.R_drew ?_))); rintro e w' ⟨v', rfl, hr2, hb2⟩)
          all_goals
            clear k1 k2 k3 k4
            have HR2 := Aside0.mk hr2
            have HB2 := Aside0.mk hb2
            clear hr2 hb2 hpl
            go_wp2
            go_roundw
            case rel => exact ⟨i + 1, by omega, by go_num, ⟨by
              have hlx : lixE t i = (b - 48).toNat := by unfold lixE; rw [HD0.out, HD7.out, HPR.out, HBD.out]; simp; try omega
              have := HR2.out
              rw [show lp (b - 48) = lg (b - 48).toNat by unfold lg; rw [if_pos (by omega), show (((b - 48).toNat : Nat) : Int) = b - 48 by omega]] at this
              rw [show preE t (i + 1) = preE t i ++ bars false (lg (b - 48).toNat) by unfold preE; rw [leftE_next, hlx]; simp only [List.append_assoc]]
              exact this⟩, HB2⟩
            case measure => simp [intOf]; omega
        · have hsv : ((st[i]'hsi2).toNat : Int) = 66 := by rw [hsb0, hP]; rfl
          have HPR := Aside0.mk hP
          clear hsb0 hP
          have k1 : IntKind.i64.wrap (1 + (i : Int)) = 1 + (i : Int) := IntWalk.i64_in _ (by omega)
          have k2 : (0 : Int) ≤ 1 + (i : Int) := by omega
          have k4 : 1 + (i : Int) < 8 := by omega
          have k3 : (1 + (i : Int)).toNat = 1 + i := by omega
          go_wp2_with fail
          go_region_with (go_at_call 68; refine (dig68B w _ _ (preE t i) b (by omega) (by omega) (by assumption) ?side1 ?side2).mono ?_; (case side1 => repeat (first | exact HB.out | apply below_alloc | apply pw_below_drewN | apply below_drew1)); (case side2 => repeat (first | exact HR.out | (with_reducible refine Kd.R_drewN ?_ _) | (with_reducible refine Kd.R_drew ?_))); rintro e w' ⟨v', rfl, hr2, hb2⟩)
          all_goals
            clear k1 k2 k3 k4
            have HR2 := Aside0.mk hr2
            have HB2 := Aside0.mk hb2
            clear hr2 hb2 hpl
            go_wp2
            go_roundw
            case rel => exact ⟨i + 1, by omega, by go_num, ⟨by
              have hlx : lixE t i = (b - 48 + 10).toNat := by unfold lixE; rw [HD0.out, HD7.out, HPR.out, HBD.out]; simp; try omega
              have := HR2.out
              skip
              rw [show preE t (i + 1) = preE t i ++ bars false (lg (b - 48 + 10).toNat) by unfold preE; rw [leftE_next, hlx]; simp only [List.append_assoc]]
              exact this⟩, HB2⟩
            case measure => simp [intOf]; omega
      · obtain rfl : i = 6 := by omega
        go_wp2_with fail
        refine (bars66 w wr _ ⟨#[49, 49, 49, 49, 49, 49]⟩ (preE t 6) false (bars false [1, 1, 1, 1, 1, 1]) (by decide +kernel) (by decide) (by rw [preE_length t HTA.out 6 (by omega)]; omega) HB.out HR.out).mono ?_
        rintro e w2 ⟨v2, rfl, hr2, hb2⟩
        have HR2 := Aside0.mk hr2
        have HB2 := Aside0.mk hb2
        clear hr2 hb2
        go_wp2
        go_ret
        exact ⟨_, rfl, HR2.out, HB2.out⟩

set_option maxHeartbeats 2000000 in
set_option maxRecDepth 100000 in
theorem odWrite_upce_none (w : World) (text : ByteArray) (wd mg : Int) (h0 : text.size = 0) :
    Calls Tryz.prog 15 #[.int .i64 15, .string text, .int .i64 wd, .int .i64 mg] w fun e w' => e = .returned (.tuple #[.slice none 0 0, .bool false]) ∧ Below w.heap.size w w' := by
  have hmm := @run_makeMap Tryz.prog
  have H0 := Aside0.mk h0
  clear h0
  go_enter Tryz.func15, Tryz.ntmps15
  go_wp2_with fail
  refine (writer_upce w).mono ?_
  rintro e w1 ⟨rfl, hw1⟩
  have hi := run_ins w1 (.iface 3 (.int .i64 mg))
  have hq := methE w.heap.size
  have hb1 : Below w.heap.size w w1 := by rw [hw1]; exact below_alloc (Below.refl _ _) _
  have hg : Blk w1 w.heap.size 106 #[.iface 98 (.agg #[]), .int .i64 9] := by rw [hw1]; exact Blk.new _ _ _
  have HB1 := Aside0.mk hb1
  have HG := Aside0.mk hg
  clear hw1 hb1 hg
  go_wp2_with fail
  have hma : Below w1.heap.size w1 (w1.alloc (.map #[⟨.int .i64 5, .iface 3 (.int .i64 mg), 0⟩] 1)) := below_alloc (Below.refl _ _) _
  refine (encode_none13 _ _ _ text _ _ _ H0.out).mono ?_
  rintro e w2 ⟨⟨x, rfl⟩, hb2⟩
  have HB2 := Aside0.mk (HB1.out.trans ((hma.mono HB1.out.size).trans (hb2.mono (Nat.le_trans HB1.out.size hma.size))))
  clear hma hb2 hi hmm hq
  go_wp2
  go_ret2
  exact ⟨rfl, HB2.out⟩
theorem short15 (w : World) (s : ByteArray) (b : Bool) (hb : b = decide (s.size = 7)) : Calls Tryz.prog 41 #[.int .i64 15, .string s] w fun e w' => e = .returned (.bool b) ∧ Drawn0 w w' := F.laws_odShort.calls 15 s b w (by
  subst hb
  unfold F.laws_odShort.f
  rw [if_pos rfl, Option.some.injEq, Bool.eq_iff_iff, beq_iff_eq, decide_eq_true_iff]
  omega)
theorem codeE_first (t : ByteArray) : rdOf false (codeE t) 0 = true := rfl
theorem codeE_last (t : ByteArray) (h : AllDig t 8) : rdOf false (codeE t) ((codeE t).length - 1 : Int) = true := by
  rw [codeE_length t h]
  unfold rdOf codeE
  rw [List.getD_eq_getElem?_getD, List.getElem?_append_right (by rw [preE_length t h 6 (by omega)]; decide), preE_length t h 6 (by omega)]
  rfl
theorem ckTextE_self (s : ByteArray) (h : s.size = 8) (hd : AllDig s 8) (hk : dgt s 7 = ckE s) : ckTextE s = s := by
  have hb := bytesOf_8 s h
  apply bytes_inj
  unfold ckTextE
  rw [bytesOf_append, bytesOf_ext, hb]
  have h7 := (dgt_ok s 7).1 (hd 7 (by omega))
  have e7 : bt s ((7 : Nat) : Int) = bt s 7 := rfl
  rw [e7] at h7
  have hk2 : bt s 7 = 48 + ckE s := by
    rw [← hk]; unfold dgt; rw [e7]; omega
  have hr := ckE_range s
  have : bytesOf (⟨#[UInt8.ofNat (48 + ckE s).toNat]⟩ : ByteArray) = [bt s 7] := by
    rw [hk2]
    show [((UInt8.ofNat (48 + ckE s).toNat).toNat : Int)] = _
    rw [utf_lt _ hr.1 hr.2]
    simp
    omega
  rw [this]
  rfl
set_option maxHeartbeats 4000000 in
set_option maxRecDepth 100000 in
theorem writE_bad (w : World) (s u : ByteArray) (hm : s.size ≤ 2147483647) (h7 : ¬ (s.size = 7 ∧ AllDig s 7 ∧ bt s 0 ≤ 49)) (h8 : ¬ FullE s) (hc : ∀ W : World, Calls Tryz.prog 40 #[.int .i64 15, .string s] W fun e w' => e = .returned (.tuple #[.string u, .bool false]) ∧ Below W.heap.size W w') :
    Calls Tryz.prog 24 #[.int .i64 15, .string s] w fun e w' => e = .returned (.bool true) ∧ Below w.heap.size w w' := by
  have HC := Aside0.mk hc
  have HW := Aside0.mk (fun W : World => (show Calls Tryz.prog 15 #[.int .i64 15, .string s, .int .i64 0, .int .i64 20] W fun e w' => e = .returned (.tuple #[.slice none 0 0, .bool false]) ∧ Below W.heap.size W w' from by
    by_cases h0 : s.size = 0
    · exact odWrite_upce_none W s 0 20 h0
    · exact odWrite_upce_no W s 0 20 (by omega) (by omega) (fun gm W' => encE_no W' _ s hm h7 h8)))
  clear h7 h8 hc hm
  go_enter Tryz.func24, Tryz.ntmps24
  go_wp2_with fail
  refine (HC.out _).mono ?_
  rintro e w1 ⟨rfl, hb⟩
  have HB1 := Aside0.mk hb
  clear hb
  go_wp2_with fail
  try go_quiet (fail)
  try go_wp2_with fail
  refine (HW.out _).mono ?_
  rintro e w2 ⟨rfl, hb⟩
  have HB2 := Aside0.mk (show Below w.heap.size w w2 from by
    refine HB1.out.trans ?_
    first
    | exact hb.mono HB1.out.size
    | exact (below_drew1' hb).mono HB1.out.size)
  clear hb
  go_wp2
  go_ret
  exact ⟨rfl, HB2.out⟩
set_option maxHeartbeats 4000000 in
set_option maxRecDepth 100000 in
theorem writE_ok (w : World) (s : ByteArray) (hm : s.size ≤ 2147483647) (h : FullE s) :
    Calls Tryz.prog 24 #[.int .i64 15, .string s] w fun e w' => e = .returned (.bool true) ∧ Below w.heap.size w w' := by
  have hsz : s.size = 8 := h.1
  have hua : AllDig s 8 := h.2.1
  have h01 : dgt s 0 ≤ 1 := h.2.2.1
  have hf : bt s 0 ≤ 49 := by
    have := (dgt_ok s 0).1 (hua 0 (by omega))
    unfold dgt at h01
    have e0 : bt s ((0 : Nat) : Int) = bt s 0 := rfl
    rw [e0] at this h01
    omega
  have hc : ∀ W : World, Calls Tryz.prog 40 #[.int .i64 15, .string s] W fun e w' => e = .returned (.tuple #[.string s, .bool true]) ∧ Below W.heap.size W w' := by
    intro W
    have := odcE_all W s hsz hua hf
    rwa [decide_eq_true h.2.2.2, ckTextE_self s hsz hua h.2.2.2] at this
  have hlen := codeE_length s hua
  have hl8 := codeE_last s hua
  obtain ⟨code, hcode⟩ : ∃ code, codeE s = code := ⟨_, rfl⟩
  have HMOD := Aside0.mk (fun W : World => mod15 W s hsz hua h01)
  have hfst := codeE_first s
  rw [hcode] at hlen hl8 HMOD hfst
  have HW := Aside0.mk (fun W : World => odRowW_upce W s 0 20 code (by omega) (by omega) (by omega) (by omega) (by omega) (by omega) (by omega) (fun gm W' => by
    have := encE_ok W' (.map (some gm)) s h
    rwa [hcode] at this))
  have HC := Aside0.mk hc
  have HLEN := Aside0.mk hlen
  have HL8 := Aside0.mk hl8
  have HF := Aside0.mk hfst
  have HSH := Aside0.mk (fun W : World => short15 W s false (by rw [hsz]; rfl))
  clear h hc hm hsz hua h01 hf hlen hl8 hcode hfst
  obtain ⟨RN, hRN⟩ : ∃ n, (rowOf code 0 20).length = n := ⟨_, rfl⟩
  rw [hRN] at HW
  have HRN := Aside0.mk hRN
  clear hRN
  go_enter Tryz.func24, Tryz.ntmps24
  go_wp2_with fail
  refine (HC.out _).mono ?_
  rintro e w1 ⟨rfl, hb⟩
  have HB1 := Aside0.mk hb
  clear hb
  go_wp2_with fail
  refine (HSH.out _).mono ?_
  rintro e w2 ⟨rfl, ⟨n2, rfl⟩⟩
  have HB2 := Aside0.mk (HB1.out.trans ((show Drawn0 w1 _ from ⟨n2, rfl⟩).below.mono HB1.out.size))
  clear HB1
  go_wp2_with fail
  refine (HW.out _).mono ?_
  rintro e w3 ⟨b, rfl, hbk, hb3⟩
  have HB3 := Aside0.mk (HB2.out.trans (hb3.mono HB2.out.size))
  have HBK := Aside0.mk hbk
  clear hbk hb3 HB2
  go_wp2_with fail
  refine (trim43 w3 b code (by have := HLEN.out; omega) HF.out HL8.out (by have := HLEN.out; omega) RN HRN.out HBK.out).mono ?_
  rintro e w4 ⟨v4, rfl, hv4, hb4⟩
  have HV4 := Aside0.mk hv4
  have HB4 := Aside0.mk (HB3.out.trans (hb4.mono HB3.out.size))
  clear hv4 hb4 HB3 HBK
  go_wp2_with fail
  refine (HMOD.out _).mono ?_
  rintro e w5 ⟨v5, rfl, hr5, hb5⟩
  obtain ⟨A5, c5, rfl, hc5, hC5⟩ := Kd.R_reads hr5
  have hv4 := Kd.V_below HV4.out hb5
  obtain ⟨A4, c4, rfl⟩ := Kd.V_slice hv4
  obtain ⟨_, hc4, hC4⟩ := Kd.V_reads' hv4
  have HC4 := Aside0.mk hC4
  have HC5 := Aside0.mk hC5
  have HB5 := Aside0.mk (HB4.out.trans (hb5.mono HB4.out.size))
  clear hr5 hb5 hv4 hC4 hC5 HV4 HB4
  obtain ⟨kk, hk⟩ := (same_self code (by have := HLEN.out; omega)).rounds
  have HK := Aside0.mk hk
  clear hk
  go_wp2_with fail
  refine (F.spec_ODSame.calls kk A4 c4 code A5 c5 code true _ HC4.out hc4 HC5.out hc5 HK.out).mono ?_
  rintro e w6 ⟨rfl, ⟨n6, rfl⟩⟩
  have HB6 := Aside0.mk (HB5.out.trans ((show Drawn0 w5 _ from ⟨n6, rfl⟩).below.mono HB5.out.size))
  clear HB5
  go_wp2
  go_ret
  exact ⟨rfl, HB6.out⟩
set_option maxHeartbeats 4000000 in
set_option maxRecDepth 100000 in
theorem writE_short (w : World) (s : ByteArray) (h7 : s.size = 7) (hd : AllDig s 7) (hf : bt s 0 ≤ 49) :
    Calls Tryz.prog 24 #[.int .i64 15, .string s] w fun e w' => e = .returned (.bool true) ∧ Below w.heap.size w w' := by
  have HC := Aside0.mk (fun W : World => odcE_own W s h7 hd hf)
  have HSH := Aside0.mk (fun W : World => short15 W s true (by rw [h7]; rfl))
  obtain ⟨u, hu⟩ : ∃ u, ckTextE s = u := ⟨_, rfl⟩
  rw [hu] at HC
  clear h7 hd hf hu
  go_enter Tryz.func24, Tryz.ntmps24
  go_wp2_with fail
  refine (HC.out _).mono ?_
  rintro e w1 ⟨rfl, hb⟩
  have HB1 := Aside0.mk hb
  clear hb
  go_wp2_with fail
  refine (HSH.out _).mono ?_
  rintro e w2 ⟨rfl, ⟨n2, rfl⟩⟩
  go_wp2
  go_ret
  exact ⟨rfl, HB1.out.trans ((show Drawn0 w1 _ from ⟨n2, rfl⟩).below.mono HB1.out.size)⟩
theorem lawUpcE (w : World) (s : ByteArray) :
    Calls Tryz.prog 10 #[.string s] w fun e w' => e = .returned (.bool true) ∧ Below w.heap.size w w' := by
  by_cases hz : s.size ≤ 2147483647
  · have hwr : ∀ W : World, Calls Tryz.prog 24 #[.int .i64 15, .string s] W fun e w' => e = .returned (.bool true) ∧ Below W.heap.size W w' := by
      intro W
      by_cases h7 : s.size = 7 ∧ AllDig s 7 ∧ bt s 0 ≤ 49
      · exact writE_short W s h7.1 h7.2.1 h7.2.2
      by_cases h8 : FullE s
      · exact writE_ok W s hz h8
      have hfd : ∀ (h : 0 < s.size) (k : AllDig s 7), 49 < bt s 0 → 1 < dgt s 0 := by
        intro h k hb
        have := (dgt_ok s 0).1 (k 0 (by omega))
        unfold dgt
        have e0 : bt s ((0 : Nat) : Int) = bt s 0 := rfl
        rw [e0] at this ⊢
        omega
      by_cases d7 : s.size = 7 ∧ AllDig s 7
      · exact writE_bad W s _ hz h7 h8 (fun W' => odcE_bad0 W' s d7 (by
          rcases Classical.em (49 < bt s 0) with h | h
          · exact h
          · exact absurd ⟨d7.1, d7.2, by omega⟩ h7))
      by_cases d8 : s.size = 8 ∧ AllDig s 8
      · by_cases hf : bt s 0 ≤ 49
        · refine writE_bad W s (ckTextE s) hz h7 h8 (fun W' => ?_)
          have := odcE_all W' s d8.1 d8.2 hf
          rwa [decide_eq_false (fun hk => h8 ⟨d8.1, d8.2, by
            have := (dgt_ok s 0).1 (d8.2 0 (by omega))
            unfold dgt
            have e0 : bt s ((0 : Nat) : Int) = bt s 0 := rfl
            rw [e0] at this ⊢
            omega, hk⟩)] at this
        · exact writE_bad W s _ hz h7 h8 (fun W' => odcE_bad1 W' s d8 (by omega))
      · exact writE_bad W s _ hz h7 h8 (fun W' => odcE_bad W' s d7 d8)
    have HW := Aside0.mk hwr
    have hzz : decide ((2147483647 : Int) < (s.size : Int)) = false := decide_eq_false (by omega)
    clear hwr hz
    go_enter Tryz.func10, Tryz.ntmps10
    go_wp2_with (go_at_call 24; refine (HW.out _).mono ?_; rintro e w' ⟨rfl, hb⟩)
    go_ret
    exact ⟨rfl, hb⟩
  · have hzz : decide ((2147483647 : Int) < (s.size : Int)) = true := decide_eq_true (by omega)
    clear hz
    go_enter Tryz.func10, Tryz.ntmps10
    go_wp2
    go_ret
    exact ⟨rfl, Below.refl _ _⟩
theorem walkUpcE (w : World) (s : ByteArray) {p : Prop} (_ : p) :
    Calls Tryz.prog 10 #[.string s] w fun e w' => e = .returned (.bool true) ∧ Below w.heap.size w w' := lawUpcE w s
end Go.Proofs.YthkddnmomjcdaaaGreat.B
