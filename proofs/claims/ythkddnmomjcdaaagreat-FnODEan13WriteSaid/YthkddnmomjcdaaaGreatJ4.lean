import Derived.Test.YthkddnmomjcdaaaGreatJ1
import Derived.Laws.CopyRow
import Derived.Laws.CopyOwn
import Derived.Test.YthkddnmomjcdaaaGreatF169
import Derived.Test.YthkddnmomjcdaaaGreatJ2
import Derived.Test.YthkddnmomjcdaaaGreatF69
namespace Go.Proofs.YthkddnmomjcdaaaGreat.B
open Go.RowKit Go.Proofs.YthkddnmomjcdaaaGreatW.PrintWords Go.Proofs.YthkddnmomjcdaaaGreatW.PrintLast Go.Proofs.YthkddnmomjcdaaaGreatW.PrintMore
set_option linter.unusedVariables false
set_option linter.unusedSimpArgs false

/-! ### The patterns, and turned round -/
def allocRows : World → List (List Int) → World
  | w, [] => w
  | w, r :: rs => allocRows (w.alloc (.cells (nums .i64 r).toArray 3)) rs
theorem allocRows_size (w : World) (rs : List (List Int)) : (allocRows w rs).heap.size = w.heap.size + rs.length := by
  induction rs generalizing w with
  | nil => rfl
  | cons r rs ih => rw [allocRows, ih]; simp; omega
theorem allocRows_below (w : World) (rs : List (List Int)) (B : Nat) (w0 : World) (h : Below B w0 w) (hB : B ≤ w.heap.size) : Below B w0 (allocRows w rs) := by
  induction rs generalizing w with
  | nil => exact h
  | cons r rs ih => exact ih _ (h.alloc hB _) (by simp; omega)
theorem allocRows_kept (w : World) (rs : List (List Int)) {g : Nat} {t : TypeId} {cs : Array Value} (h : Blk w g t cs) : Blk (allocRows w rs) g t cs := by
  induction rs generalizing w with
  | nil => exact h
  | cons r rs ih => exact ih _ (h.alloc _)
theorem allocRows_blk (w : World) (rs : List (List Int)) (i : Nat) (h : i < rs.length) : Blk (allocRows w rs) (w.heap.size + i) 3 (nums .i64 (rs.getD i [])).toArray := by
  induction rs generalizing w i with
  | nil => simp at h
  | cons r rs ih =>
    cases i with
    | zero => exact allocRows_kept _ rs (Blk.new w 3 _)
    | succ i =>
      have := ih (w.alloc (.cells (nums .i64 r).toArray 3)) i (by simpa using h)
      rw [show (w.alloc (.cells (nums .i64 r).toArray 3)).heap.size = w.heap.size + 1 by simp] at this
      rwa [show w.heap.size + 1 + i = w.heap.size + (i + 1) by omega] at this
def rowCells (b : Nat) : Array Value := #[.slice (some ⟨b, 0, none⟩) 4 4, .slice (some ⟨b + 1, 0, none⟩) 4 4, .slice (some ⟨b + 2, 0, none⟩) 4 4, .slice (some ⟨b + 3, 0, none⟩) 4 4, .slice (some ⟨b + 4, 0, none⟩) 4 4, .slice (some ⟨b + 5, 0, none⟩) 4 4, .slice (some ⟨b + 6, 0, none⟩) 4 4, .slice (some ⟨b + 7, 0, none⟩) 4 4, .slice (some ⟨b + 8, 0, none⟩) 4 4, .slice (some ⟨b + 9, 0, none⟩) 4 4]
theorem rowCells_get (b d : Nat) (h : d < 10) : (rowCells b)[d]? = some (.slice (some ⟨b + d, 0, none⟩) 4 4) := by
  match d, h with
  | 0, _ => rfl
  | 1, _ => rfl
  | 2, _ => rfl
  | 3, _ => rfl
  | 4, _ => rfl
  | 5, _ => rfl
  | 6, _ => rfl
  | 7, _ => rfl
  | 8, _ => rfl
  | 9, _ => rfl
set_option maxHeartbeats 2000000 in
set_option maxRecDepth 100000 in
theorem lpats_exact (w : World) : Calls Tryz.prog 164 #[] w fun e w' => e = .returned (.slice (some ⟨w.heap.size + 10, 0, none⟩) 10 10) ∧ Blk w' (w.heap.size + 10) 40 (rowCells w.heap.size) ∧ (∀ d : Nat, d < 10 → Blk w' (w.heap.size + d) 3 (nums .i64 (lp d)).toArray) ∧ Below w.heap.size w w' ∧ w'.heap.size = w.heap.size + 11 := by
  have key : ∀ w' : World, w' = (allocRows w lpats).alloc (.cells (rowCells w.heap.size) 40) → Blk w' (w.heap.size + 10) 40 (rowCells w.heap.size) ∧ (∀ d : Nat, d < 10 → Blk w' (w.heap.size + d) 3 (nums .i64 (lp d)).toArray) ∧ Below w.heap.size w w' ∧ w'.heap.size = w.heap.size + 11 := by
    rintro w' rfl
    have hs := allocRows_size w lpats
    have hl : lpats.length = 10 := rfl
    refine ⟨?_, fun d hd => (allocRows_blk w lpats d (by omega)).alloc _, (allocRows_below w lpats _ w (Below.refl _ _) (Nat.le_refl _)).alloc (by omega) _, by simp; omega⟩
    have := Blk.new (allocRows w lpats) 40 (rowCells w.heap.size)
    rwa [hs, hl] at this
  have KEY := Aside0.mk key
  clear key
  go_enter Tryz.func164, Tryz.ntmps164
  go_wp2
  go_ret
  exact ⟨rfl, KEY.out _ rfl⟩

/-- A pattern of the sets A (from 0 on) and B (from 10 on). -/
def lg (d : Nat) : List Int := if d < 10 then lp d else (lp ((d - 10 : Nat) : Int)).reverse
def z20 : List Value := List.replicate 20 (Value.slice none 0 0)
theorem make_20 (w : World) : (Instr.makeSlice 188 (.int .i64 20) (.int .i64 20)).run Tryz.prog w = .ok (.slice (some ⟨w.heap.size, 0, none⟩) 20 20) (w.alloc (.cells z20.toArray 40)) := by
  obtain ⟨i, hi, hz, hs, hb⟩ := info_parts F.info40
  have := run_make_rowN (P := Tryz.prog) 188 40 i (.slice none 0 0) Tryz.underlying188 hi hz .i64 .i64 20 20 (Nat.le_refl _) (by rw [hb]; omega) (by omega) w
  have e : madeCells (Value.slice none 0 0).cells (20 * 1) = z20.toArray := by
    apply Array.toList_inj.1
    rw [Nat.mul_one]
    exact (toList_madeCells_one _ _).trans (by simp [z20])
  rw [hs, e] at this
  exact this
def z4 : List Int := List.replicate 4 0
theorem make_4 (w : World) : (Instr.makeSlice 40 (.int .i64 4) (.int .i64 4)).run Tryz.prog w = .ok (.slice (some ⟨w.heap.size, 0, none⟩) 4 4) (w.alloc (.cells (nums .i64 z4).toArray 3)) := by
  obtain ⟨i, hi, hz, hs, hb⟩ := info_parts F.info3
  have := run_make_rowN (P := Tryz.prog) 40 3 i (.int .i64 0) Tryz.underlying40 hi hz .i64 .i64 4 4 (Nat.le_refl _) (by rw [hb]; omega) (by omega) w
  have e : madeCells (Value.int .i64 0).cells (4 * 1) = (nums .i64 z4).toArray := by
    apply Array.toList_inj.1
    rw [Nat.mul_one]
    exact (toList_madeCells_one _ _).trans (by simp [z4, nums])
  rw [hs, e] at this
  exact this
/-- Row d of the patterns is there. -/
def RowOk (w : World) (g : Nat) (cs : Array Value) (d : Nat) : Prop := ∃ b, cs[d]? = some (.slice (some ⟨b, 0, none⟩) 4 4) ∧ g < b ∧ Blk w b 3 (nums .i64 (lg d)).toArray
def cp20 (b : Nat) : Array Value := ((rowCells b).toList ++ List.replicate 10 (Value.slice none 0 0)).toArray
theorem cp20_get (b d : Nat) (h : d < 10) : (cp20 b)[d]? = some (.slice (some ⟨b + d, 0, none⟩) 4 4) := by
  have h1 := rowCells_get b d h
  unfold cp20
  rw [List.getElem?_toArray, List.getElem?_append_left (by show d < 10; exact h), Array.getElem?_toList]
  exact h1
theorem copyFact (w : World) (g b : Nat) (hg : Blk w g 40 z20.toArray) (hb : Blk w (b + 10) 40 (rowCells b)) :
    (Builtin.copy_ #[188, 188] 3 #[.slice (some ⟨g, 0, none⟩) 20 20, .slice (some ⟨b + 10, 0, none⟩) 10 10]).run Tryz.prog w = .ok (.int .i64 10) (w.setRow g (cp20 b)) := by
  have := run_copy_row (P := Tryz.prog) w 188 188 3 40 g 0 20 20 ⟨b + 10, 0, none⟩ 10 10 z20.toArray 40 (rowCells b).toList Tryz.underlying188 (by kernel_rfl) hg rfl
    (fun j v hj => by
      have h1 := hb.cell j
      have h2 : (⟨b + 10, 0, none⟩ : Addr).add j = ⟨b + 10, j, none⟩ := by unfold Addr.add; simp; try (intro h; exact h.symm)
      rw [h2, h1, ← Array.getElem?_toList]
      exact hj) (by show 0 + 10 ≤ 20; omega) (by
      intro v hv
      simp only [rowCells, List.mem_cons, List.not_mem_nil, or_false] at hv
      rcases hv with rfl | rfl | rfl | rfl | rfl | rfl | rfl | rfl | rfl | rfl <;> rfl)
  exact this
set_option maxHeartbeats 4000000 in
set_option maxRecDepth 100000 in
theorem lgAll (w : World) : Calls Tryz.prog 170 #[] w fun e w' => ∃ cs, e = .returned (.slice (some ⟨w.heap.size, 0, none⟩) 20 20) ∧ Blk w' w.heap.size 40 cs ∧ (∀ d : Nat, d < 20 → RowOk w' w.heap.size cs d) ∧ Below w.heap.size w w' := by
  have hmk := make_20
  have hmk4 := make_4
  go_enter Tryz.func170, Tryz.ntmps170
  go_wp2_with fail
  obtain ⟨w1, hw1⟩ : ∃ w1, w.alloc (.cells z20.toArray 40) = w1 := ⟨_, rfl⟩
  obtain ⟨g, hg⟩ : ∃ g, w.heap.size = g := ⟨_, rfl⟩
  have hbk : Blk w1 g 40 z20.toArray := by rw [← hw1, ← hg]; exact Blk.new _ _ _
  have hb1 : Below g w w1 := by rw [← hw1, ← hg]; exact below_alloc (Below.refl _ _) _
  obtain ⟨b, hb⟩ : ∃ b, w1.heap.size = b := ⟨_, rfl⟩
  have hgb : g < b := by rw [← hb]; exact hbk.lt
  have HG := Aside0.mk hg
  simp only [hw1, hg]
  refine (lpats_exact w1).mono ?_
  rw [hb]
  rintro e w2 ⟨rfl, hb0, hrows, hbel, hsz⟩
  have hbk2 := hbk.below hbel hgb
  have hcp := copyFact w2 g b hbk2 hb0
  have hB2 : Below g w (w2.setRow g (cp20 b)) := by
    have h1 : Below g w w2 := hb1.trans (hbel.mono (by omega))
    exact below_setRow h1 (Nat.le_refl _) _
  have hset : Blk (w2.setRow g (cp20 b)) g 40 (cp20 b) := setRow_heap w2 g _ _ _ _ hbk2
  have hoth : ∀ k, k ≠ g → (w2.setRow g (cp20 b)).heap[k]? = w2.heap[k]? := by
    intro k hk
    simp [World.setRow, Array.getElem?_set, Array.getElem?_modify, Ne.symm hk]
  have hro : ∀ d : Nat, d < 10 → RowOk (w2.setRow g (cp20 b)) g (cp20 b) d := by
    intro d hd
    refine ⟨b + d, cp20_get b d hd, by omega, ?_⟩
    have := hrows d hd
    unfold lg
    rw [if_pos hd]
    exact (hoth _ (by omega)).trans this
  have HSET := Aside0.mk hset
  have HRO := Aside0.mk hro
  have HB2 := Aside0.mk hB2
  have hsz2 : (w2.setRow g (cp20 b)).heap.size = w2.heap.size := size_setRow _ _ _
  have HS2 := Aside0.mk (show g < (w2.setRow g (cp20 b)).heap.size by omega)
  clear hbk hb1 hb0 hrows hbel hsz hbk2 hB2 hset hoth hro hw1 hg hb hsz2
  go_wp2_with fail
  go_loopw [2] (fun v wr => ∃ (q : Nat) (cs : Array Value), q ≤ 10 ∧ v = .int .i64 (10 + (q : Int)) ∧ Aside0 (Blk wr g 40 cs) ∧ Aside0 (cs.size = 20) ∧ Aside0 (∀ d : Nat, d < 10 + q → RowOk wr g cs d) ∧ Aside0 (Below g w wr)) (fun v _ => 20 - (intOf v).toNat)
  case atStart => exact ⟨0, cp20 b, by omega, rfl, HSET, ⟨rfl⟩, HRO, HB2⟩
  case round =>
    obtain ⟨q, cs, hq, rfl, HX, HCS, HR, HB⟩ := hrel
    clear HSET HRO HB2 HS2
    by_cases hlt : q < 10
    · have d1 : decide (10 + (q : Int) < 20) = true := decide_eq_true (by omega)
      go_wp2_with fail
      obtain ⟨b2, hb2⟩ : ∃ b2, wr.heap.size = b2 := ⟨_, rfl⟩
      have hgb2 : g < b2 := by rw [← hb2]; exact HX.out.lt
      refine (lpats_exact wr).mono ?_
      rw [hb2]
      rintro e w3 ⟨rfl, hp0, hrows, hbel, hsz⟩
      have HX3 := Aside0.mk (HX.out.below hbel hgb2)
      have HR3 := Aside0.mk (show ∀ d : Nat, d < 10 + q → RowOk w3 g cs d from fun d hd => by
        obtain ⟨k, h1, h2, h3⟩ := HR.out d hd
        exact ⟨k, h1, h2, h3.below hbel (by rw [← hb2]; exact h3.lt)⟩)
      have HB3 := Aside0.mk (show Below g w w3 from HB.out.trans (hbel.mono (by omega)))
      have hcell : w3.cell? ⟨b2 + 10, q, none⟩ = some (.slice (some ⟨b2 + q, 0, none⟩) 4 4) := by rw [hp0.cell]; exact rowCells_get b2 q hlt
      have HW3 := Aside0.mk (hrows q hlt)
      have HSZ := Aside0.mk hsz
      clear hp0 hrows hbel hsz HX HR HB hb2
      go_wp2_with fail
      obtain ⟨h, hh⟩ : ∃ h, w3.heap.size = h := ⟨_, rfl⟩
      obtain ⟨w4, hw4⟩ : ∃ w4, w3.alloc (.cells (nums .i64 z4).toArray 3) = w4 := ⟨_, rfl⟩
      have hh11 : h = b2 + 11 := by rw [← hh]; exact HSZ.out
      have hbel : Below h w3 w4 := by rw [← hw4, ← hh]; exact below_alloc (Below.refl _ _) _
      have hb4 : Blk w4 h 3 (nums .i64 (put z4 ([] : List Int))).toArray := by rw [← hw4, ← hh, put_nil]; exact Blk.new _ _ _
      have HX4 := Aside0.mk (HX3.out.below hbel (by omega))
      have HW4 := Aside0.mk (HW3.out.below hbel (by omega))
      have HR4 := Aside0.mk (show ∀ d : Nat, d < 10 + q → RowOk w4 g cs d ∧ ∀ k, cs[d]? = some (.slice (some ⟨k, 0, none⟩) 4 4) → k < h from fun d hd => by
        obtain ⟨k, h1, h2, h3⟩ := HR3.out d hd
        have hk : k < h := by rw [← hh]; exact h3.lt
        refine ⟨⟨k, h1, h2, h3.below hbel hk⟩, fun k' hk' => ?_⟩
        rw [h1] at hk'
        simp only [Option.some.injEq, Value.slice.injEq, Addr.mk.injEq] at hk'
        omega)
      have HB4 := Aside0.mk (show Below g w w4 from HB3.out.trans (hbel.mono (by omega)))
      have HR0 := Aside0.mk hb4
      have HHG := Aside0.mk (show g < h by omega)
      have HH11 := Aside0.mk hh11
      simp only [hw4, hh]
      clear hbel hb4 hw4 hh hh11 HX3 HR3 HB3 HW3 HSZ hcell
      go_loopw [5] (fun v wi => ∃ (j : Nat), j ≤ 4 ∧ v = .int .i64 (j : Int) ∧ Aside0 (Blk wi h 3 (nums .i64 (put z4 ((lp q).reverse.take j))).toArray) ∧ Aside0 (Turn w4 wi h)) (fun v _ => 4 - (intOf v).toNat)
      case atStart => exact ⟨0, by omega, rfl, HR0, ⟨Turn.refl _ _⟩⟩
      case round =>
        obtain ⟨j, hj, rfl, HI, HT⟩ := hrel
        clear HR0
        obtain ⟨l1, _, _⟩ := lp_facts (q : Int) (by omega) (by omega)
        have hrl : ((lp q).reverse.take j).length = j := by rw [List.length_take, List.length_reverse, l1]; omega
        have HRL := Aside0.mk hrl
        have HL1 := Aside0.mk l1
        clear hrl l1
        by_cases hlj : j < 4
        · have e1 : decide ((j : Int) < 4) = true := decide_eq_true (by omega)
          have hw := HT.out.blk HW4.out (by have := HH11.out; omega)
          have c1 : wr.cell? ⟨b2 + q, 4 - j - 1, none⟩ = some (.int .i64 (rd (lp q) ((4 - j - 1 : Nat) : Int))) := by
            have := hw.ucell ((4 - j - 1 : Nat) : Int) (by omega) (by rw [HL1.out]; omega)
            simpa using this
          have c2 : wr.cell? ⟨h, j, none⟩ = some (.int .i64 (rd (put z4 ((lp q).reverse.take j)) (j : Int))) := by
            have := HI.out.ucell (j : Int) (by omega) (by rw [put_length _ _ (by rw [HRL.out]; simp [z4]; omega)]; simp [z4]; omega)
            simpa using this
          have c3 := HI.out.frozen j
          have HI2 := Aside0.mk (show Blk (wr.setCell ⟨h, j, none⟩ (.int .i64 (rd (lp q) ((4 - j - 1 : Nat) : Int)))) h 3 (nums .i64 (put z4 ((lp q).reverse.take (j + 1)))).toArray from by
            have h1 := HI.out.uset j (rd (lp q) ((4 - j - 1 : Nat) : Int))
            have h2 := put_set z4 ((lp q).reverse.take j) (rd (lp q) ((4 - j - 1 : Nat) : Int)) (by rw [HRL.out]; simp [z4]; omega)
            rw [HRL.out] at h2
            rw [h2] at h1
            have h3 : (lp q).reverse.take (j + 1) = (lp q).reverse.take j ++ [rd (lp q) ((4 - j - 1 : Nat) : Int)] := by
              rw [List.take_succ_eq_append_getElem (by rw [List.length_reverse, HL1.out]; omega), List.getElem_reverse]
              congr 2
              unfold rd
              rw [List.getD_eq_getElem?_getD, Int.toNat_natCast, List.getElem?_eq_getElem (by rw [HL1.out]; omega)]
              simp only [HL1.out, Option.getD_some]
              congr 1
              omega
            rw [h3]
            exact h1)
          have HT2 := Aside0.mk (HT.out.trans (Turn.set wr h j (.int .i64 (rd (lp q) ((4 - j - 1 : Nat) : Int)))))
          clear hw
          go_wp2
          go_roundw
          case rel => exact ⟨j + 1, by omega, by go_num, HI2, HT2⟩
          case measure => simp [intOf]; omega
        · obtain rfl : j = 4 := by omega
          have HX5 := Aside0.mk (HT.out.blk HX4.out (by have := HHG.out; omega))
          have c1 : wr.cell? ⟨g, 10 + q, none⟩ = cs[10 + q]? := HX5.out.cell (10 + q)
          have hcq : cs[10 + q]? = some (cs[10 + q]'(by have := HCS.out; omega)) := Array.getElem?_eq_getElem _
          rw [hcq] at c1
          have c2 := HX5.out.frozen (10 + q)
          have HCQ := Aside0.mk hcq
          clear hcq
          have hlr : put z4 ((lp q).reverse.take 4) = lg (10 + q) := by
            have hr4 : (lp q).reverse.take 4 = (lp q).reverse := List.take_of_length_le (by rw [List.length_reverse, HL1.out]; omega)
            unfold lg
            rw [if_neg (by omega), hr4, show 10 + q - 10 = q by omega, put_all _ _ (by rw [List.length_reverse, HL1.out]; rfl)]
          have HI5 := Aside0.mk HI.out
          rw [hlr] at HI5
          clear hlr
          go_wp2
          go_roundw
          case rel =>
            refine ⟨q + 1, cs.setIfInBounds (10 + q) (.slice (some ⟨h, 0, none⟩) 4 4), by omega, by go_num, ⟨?_⟩, ⟨by simpa using HCS.out⟩, ⟨?_⟩, ⟨?_⟩⟩
            · exact blk_set HX5.out (10 + q) _
            · intro d hd
              by_cases e : d = 10 + q
              · subst e
                refine ⟨h, by rw [Array.getElem?_setIfInBounds_self, if_pos (by have := HCS.out; omega)], HHG.out, ?_⟩
                exact HI5.out.far (by have := HHG.out; simp only; omega) _
              · obtain ⟨⟨k, h1, h2, h3⟩, h4⟩ := HR4.out d (by omega)
                have hk := h4 k h1
                refine ⟨k, by rw [Array.getElem?_setIfInBounds_ne (by omega)]; exact h1, h2, ?_⟩
                exact (HT.out.blk h3 (by omega)).far (by simp only; omega) _
            · exact (HB4.out.trans (HT.out.below (Nat.le_of_lt HHG.out))).trans ((Turn.set wr g (10 + q) _).below (Nat.le_refl _))
          case measure => simp [intOf]; omega
    · obtain rfl : q = 10 := by omega
      go_wp2
      go_ret
      refine ⟨cs, ?_, ?_, ?_, ?_⟩
      · rw [HG.out]; rfl
      · rw [HG.out]; exact HX.out
      · rw [HG.out]; exact HR.out
      · rw [HG.out]; exact HB.out

theorem lg_facts (d : Nat) (h : d < 20) : (lg d).length = 4 ∧ (∀ p ∈ lg d, 0 ≤ p ∧ p ≤ 1000) ∧ ∀ c, (bars c (lg d)).length = 7 := by
  have : ∀ d : Fin 20, (lg d.val).length = 4 ∧ (∀ p ∈ lg d.val, 0 ≤ p ∧ p ≤ 1000) ∧ ∀ c, (bars c (lg d.val)).length = 7 := by decide +kernel
  exact this ⟨d, h⟩
theorem pats170 (w : World) (d : Nat) (h : d < 20) : Calls Tryz.prog 170 #[] w fun e w' => ∃ g A, e = .returned (.slice (some ⟨g, 0, none⟩) 20 20) ∧ w'.cell? ⟨g, d, none⟩ = some (.slice A 4 4) ∧ Kd.C (Kd.int .i64) w' A 4 (lg d) ∧ Below w.heap.size w w' := by
  refine (lgAll w).mono ?_
  rintro e w' ⟨cs, rfl, hb, hr, hbel⟩
  obtain ⟨k, h1, _, h3⟩ := hr d h
  have hc := C_nums h3 (by rw [(lg_facts d h).1]; omega)
  rw [(lg_facts d h).1] at hc
  exact ⟨_, _, rfl, by rw [hb.cell]; exact h1, hc, hbel⟩
def fde : List Int := [0, 11, 13, 14, 19, 25, 28, 21, 22, 26]
theorem first169 (w : World) (d : Int) (h0 : 0 ≤ d) (h9 : d ≤ 9) : Calls Tryz.prog 169 #[] w fun e w' => ∃ ad c, e = .returned (.slice (some ad) 10 c) ∧ w'.cell? (ad.add d.toNat) = some (.int .i64 (rd fde d)) ∧ Below w.heap.size w w' := by
  refine (F.oned_ean13Reader_FIRST_DIGIT_ENCODINGS.calls fde w rfl).mono ?_
  rintro e w' ⟨v, rfl, hn, hb⟩
  obtain ⟨A, c, rfl, hcc, hc⟩ := Kd.R_reads hn
  obtain ⟨ad, rfl, h1⟩ := Kd.at_int hc d h0 (by show d < ((10 : Nat) : Int); omega)
  exact ⟨ad, c, rfl, h1, hb⟩

/-! ### The encoder of EAN-13 -/
def par (f : Int) (k : Nat) : Bool := (rd fde f).toNat.testBit (5 - k)
def lix (t : ByteArray) (k : Nat) : Nat := (dgt t (1 + k)).toNat + if par (dgt t 0) k then 10 else 0
def left13 (t : ByteArray) (n : Nat) : List Bool := (List.range n).flatMap fun k => bars false (lg (lix t k))
theorem left13_next (t : ByteArray) (n : Nat) : left13 t (n + 1) = left13 t n ++ bars false (lg (lix t n)) := by
  unfold left13
  rw [List.range_succ, List.flatMap_append]
  simp
theorem lix_lt (t : ByteArray) (k : Nat) (h : dgt t (1 + k) ≤ 9) : lix t k < 20 := by
  unfold lix; split <;> omega
theorem left13_length (t : ByteArray) (n : Nat) (h : ∀ k < n, dgt t (1 + k) ≤ 9) : (left13 t n).length = 7 * n := by
  induction n with
  | zero => rfl
  | succ n ih =>
    rw [left13_next, List.length_append, ih (fun k hk => h k (by omega)), (lg_facts _ (lix_lt t n (h n (by omega)))).2.2]
    omega
def pre13 (t : ByteArray) (i : Nat) : List Bool := bars true [1, 1, 1] ++ left13 t i
def mid13 (t : ByteArray) (i : Nat) : List Bool := pre13 t 6 ++ bars false [1, 1, 1, 1, 1] ++ digs_ t 7 true i
def code13 (t : ByteArray) : List Bool := mid13 t 6 ++ bars true [1, 1, 1]
theorem pre13_length (t : ByteArray) (h : AllDig t 13) (i : Nat) (hi : i ≤ 6) : (pre13 t i).length = 3 + 7 * i := by
  unfold pre13
  rw [List.length_append, left13_length _ _ (fun k hk => h _ (by omega))]
  rfl
theorem mid13_length (t : ByteArray) (h : AllDig t 13) (i : Nat) (hi : i ≤ 6) : (mid13 t i).length = 50 + 7 * i := by
  unfold mid13
  rw [List.length_append, List.length_append, digs_length _ _ _ _ (fun k hk => h _ (by omega)), pre13_length t h 6 (by omega)]
  have : (bars false [1, 1, 1, 1, 1]).length = 5 := rfl
  omega
theorem code13_length (t : ByteArray) (h : AllDig t 13) : (code13 t).length = 95 := by
  unfold code13
  rw [List.length_append, mid13_length t h 6 (by omega)]
  rfl
theorem par_bit (f : Int) (h0 : 0 ≤ f) (h9 : f ≤ 9) (k : Nat) (hk : k < 6) : (bits BinOp.and IntKind.i64 (rd fde f / 2 ^ (6 - (1 + k))) 1 == 1) = par f k := by
  have : ∀ (m : Fin 10) (k : Fin 6), (bits BinOp.and IntKind.i64 (rd fde ((m.val : Nat) : Int) / 2 ^ (6 - (1 + k.val))) 1 == 1) = par ((m.val : Nat) : Int) k.val := by decide +kernel
  have h := this ⟨f.toNat, by omega⟩ ⟨k, hk⟩
  simp only [show ((f.toNat : Nat) : Int) = f by omega] at h
  exact h
def z95 : List Bool := List.replicate 95 false
theorem z95_length : z95.length = 95 := by simp [z95]
theorem make_95 (w : World) : (Instr.makeSlice 27 (.int .i64 95) (.int .i64 95)).run Tryz.prog w = .ok (.slice (some ⟨w.heap.size, 0, none⟩) 95 95) (w.alloc (.cells (bools z95).toArray 4)) := make_bool 95 (by omega) w

set_option maxHeartbeats 4000000 in
set_option maxRecDepth 100000 in
theorem enc13_ok (w : World) (mv : Value) (s t : ByteArray) (h : Full s 12 t) :
    Calls Tryz.prog 167 #[.agg #[], .string s, mv] w fun e w' => ∃ v, e = .returned (.tuple #[v, .nilIface]) ∧ Kd.R Kd.bool 4 w' w.heap.size (fun _ => True) v (code13 t) ∧ Below w.heap.size w w' := by
  have HTS := Aside0.mk h.size
  have HTA := Aside0.mk h.all
  have hmk := make_95
  have hsplit : (∃ (e : (s.size : Int) = 12), AllDig s 12 ∧ t = ckText s 12) ∨ (∃ (e : (s.size : Int) = 13), AllDig s 12 ∧ dgt s 12 = chk s 12 ∧ t = s) := by
    rcases h with ⟨h1, h2, h3⟩ | ⟨h1, h2, h3, h4⟩
    · exact .inl ⟨by omega, h2, h3⟩
    · exact .inr ⟨by omega, fun i hi => h2 i (by omega), h3, h4⟩
  clear h
  rcases hsplit with ⟨hsI, hd, ht⟩ | ⟨hsI, hd, hck, ht⟩
  · have HD := Aside0.mk hd
    have HT := Aside0.mk ht
    have HS := Aside0.mk (show s.size = 12 by omega)
    clear hd ht
    go_enter Tryz.func167, Tryz.ntmps167
    go_wp2_with fail
    refine (ck160 _ s 12 HS.out (by omega)).mono ?_
    rintro e w1 ⟨hp, hb⟩
    have he : e = .returned (.tuple #[.int .i64 (chk s 12), .nilIface]) := by
      rcases hp with ⟨_, h⟩ | ⟨h, _⟩
      · exact h
      · exact absurd HD.out h
    subst he
    have HB1 := Aside0.mk ((below_alloc (Below.refl _ w) (.cells #[] 93)).trans (hb.mono (by simp)))
    clear hp hb
    go_wp2_with fail
    refine (itoaCk _ s 12).mono ?_
    obtain ⟨ck, hck⟩ : ∃ x : ByteArray, (⟨#[UInt8.ofNat (48 + chk s 12).toNat]⟩ : ByteArray) = x := ⟨_, rfl⟩
    have hcs : ck.size = 1 := by rw [← hck]; rfl
    have c9 : s.size + ck.size ≤ 9223372036854775807 := by omega
    have c9b0 := eq_true c9
    have c9b1 : decide (s.size + ck.size ≤ 9223372036854775807) = true := decide_eq_true c9
    have c9b2 : (9223372036854775807 < s.size + ck.size) = False := eq_false (Nat.not_lt.2 c9)
    have HTT := Aside0.mk (show s ++ ck = t by rw [HT.out]; unfold ckText; rw [own_all s 12 HS.out, hck])
    rw [hck]
    rintro e wz ⟨rfl, hb⟩
    have HBZ := Aside0.mk (HB1.out.trans (hb.mono HB1.out.size))
    clear hb HB1 hck hcs
    go_wp2_with fail
    rw [HTT.out]
    clear c9 c9b0 c9b1 c9b2 hsI
    refine (numeric _ t (by have := HTS.out; omega) t.size (Nat.le_refl _) (isDig_all t 13 HTS.out HTA.out) (fun h => absurd h (Nat.lt_irrefl _))).mono ?_
    rintro e w2 ⟨v, rfl, hv, hb2⟩
    obtain rfl : v = .nilIface := by unfold NumPost at hv; rw [if_pos rfl] at hv; exact hv
    have HB2 := Aside0.mk (HBZ.out.trans (hb2.mono HBZ.out.size))
    clear hv hb2 HBZ
    have h0t : 0 < t.size := by have := HTS.out; omega
    obtain ⟨b0, hbt0, hb048, hb057, hbd0⟩ := dgt_at t 13 HTS.out HTA.out 0 (by omega) h0t
    have HBD0 := Aside0.mk hbd0
    clear hbd0
    go_wp2_with fail
    refine (first169 _ (b0 - 48) (by omega) (by omega)).mono ?_
    rintro e w21 ⟨ad1, c1, rfl, hcell1, hb21⟩
    obtain ⟨pv, hpv⟩ : ∃ pv, rd fde (b0 - 48) = pv := ⟨_, rfl⟩
    rw [hpv] at hcell1
    have HPV := Aside0.mk hpv
    have HB21 := Aside0.mk (HB2.out.trans (hb21.mono HB2.out.size))
    clear hpv hb21 HB2
    go_wp2_with fail
    obtain ⟨gt, hgt⟩ : ∃ gt, w21.heap.size = gt := ⟨_, rfl⟩
    obtain ⟨w3, hw3⟩ : ∃ w3, w21.alloc (.cells (bools z95).toArray 4) = w3 := ⟨_, rfl⟩
    have hbk : Blk w3 gt 4 (bools (put z95 [])).toArray := by rw [← hw3, ← hgt, put_nil]; exact Blk.new _ _ _
    have hb3 : Below w.heap.size w w3 := by rw [← hw3]; exact HB21.out.trans ((below_alloc (Below.refl _ w21) _).mono HB21.out.size)
    have hge : w.heap.size ≤ gt := by rw [← hgt]; exact HB21.out.size
    have HB3 := Aside0.mk hb3
    have HBK := Aside0.mk hbk
    simp only [hw3, hgt]
    clear hb3 hbk hw3 hgt HB21 hmk hcell1
    refine (pat163 _).mono ?_
    rintro e w4 ⟨A4, c4, rfl, hc4, hC4, hb4⟩
    have HBK4 := Aside0.mk (HBK.out.below hb4 HBK.out.lt)
    have HB4 := Aside0.mk (HB3.out.trans (hb4.mono HB3.out.size))
    have HC4 := Aside0.mk hC4
    clear hb4 hC4 HBK HB3
    go_wp2_with fail
    refine (appendPat' w4 gt 95 z95 [] A4 c4 [1, 1, 1] true 0 3 rfl rfl HBK4.out z95_length (by omega) (by omega) 3 rfl HC4.out hc4 (by decide) (by omega) (by omega)).mono ?_
    rintro e w5 ⟨rfl, hx, hu⟩
    have HX5 := Aside0.mk hx
    have HB5 := Aside0.mk (HB4.out.trans (hu.below hge HB4.out.size))
    clear hx hu HBK4 HB4 HC4 hc4
    go_wp2
    go_loopw [17, 18] (fun uv v wr => ∃ i : Nat, i ≤ 6 ∧ v = .int .i64 (1 + (i : Int)) ∧ uv = .int .i64 (3 + 7 * (i : Int)) ∧ Aside0 (Blk wr gt 4 (bools (put z95 (pre13 t i))).toArray) ∧ Aside0 (Below w.heap.size w wr)) (fun _ v _ => 8 - (intOf v).toNat)
    case atStart => exact ⟨0, by omega, rfl, rfl, ⟨by have := HX5.out; simpa [pre13, left13] using this⟩, HB5⟩
    case round =>
      obtain ⟨i, hi, rfl, rfl, HX, HB⟩ := hrel
      clear HX5 HB5
      by_cases hlt : i < 6
      · have d1 : decide (1 + (i : Int) ≤ 6) = true := decide_eq_true (by omega)
        have hit : 1 + i < t.size := by have := HTS.out; omega
        obtain ⟨b, hbt, hb48, hb57, hbd⟩ := dgt_at t 13 HTS.out HTA.out (1 + i) (by omega) hit
        have HBD := Aside0.mk hbd
        clear hbd
        have hpb := par_bit (b0 - 48) (by omega) (by omega) i hlt
        rw [HPV.out] at hpb
        obtain ⟨P, hP⟩ : ∃ P, par (b0 - 48) i = P := ⟨_, rfl⟩
        rw [hP] at hpb
        have HP := Aside0.mk hP
        clear hP
        cases P
        · have HPR := Aside0.mk HP.out
          go_wp2_with fail
          refine (pats170 _ (b - 48).toNat (by omega)).mono ?_
          rintro e w6 ⟨g6, A6, rfl, hcell, hC7, hb6⟩
          have HX6 := Aside0.mk (HX.out.below hb6 HX.out.lt)
          have HB6 := Aside0.mk (HB.out.trans (hb6.mono HB.out.size))
          have HC7 := Aside0.mk hC7
          clear hC7 hb6 HX HB hpb
          go_wp2_with fail
          obtain ⟨l1, l2, l3⟩ := lg_facts (b - 48).toNat (by omega)
          have hpl := pre13_length t HTA.out i (by omega)
          refine (appendPat' w6 gt 95 z95 (pre13 t i) A6 4 (lg (b - 48).toNat) false (3 + 7 * (i : Int)) 7 (by rw [hpl]; omega) (by rw [l3 false]; rfl) HX6.out z95_length (by omega) (by omega) 4 l1 HC7.out (by omega) l2 (by omega) (by omega)).mono ?_
          rintro e w7 ⟨rfl, hx, hu⟩
          have HX7 := Aside0.mk hx
          have HB7 := Aside0.mk (HB6.out.trans (hu.below hge HB6.out.size))
          clear hx hu HX6 HB6 HC7 hcell l1 l2 l3 hpl
          go_wp2
          go_roundw
          case rel => exact ⟨i + 1, by omega, by go_num, by go_num, ⟨by
            have := HX7.out
            have hlx : lix t i = (b - 48).toNat := by unfold lix; rw [HBD0.out, HPR.out, HBD.out]; simp; try omega
            rw [show pre13 t (i + 1) = pre13 t i ++ bars false (lg (b - 48).toNat) by unfold pre13; rw [left13_next, hlx, List.append_assoc]]
            exact this⟩, HB7⟩
          case measure => simp [intOf]; omega
        · have HPR := Aside0.mk HP.out
          go_wp2_with fail
          refine (pats170 _ (b - 48 + 10).toNat (by omega)).mono ?_
          rintro e w6 ⟨g6, A6, rfl, hcell, hC7, hb6⟩
          have HX6 := Aside0.mk (HX.out.below hb6 HX.out.lt)
          have HB6 := Aside0.mk (HB.out.trans (hb6.mono HB.out.size))
          have HC7 := Aside0.mk hC7
          clear hC7 hb6 HX HB hpb
          go_wp2_with fail
          obtain ⟨l1, l2, l3⟩ := lg_facts (b - 48 + 10).toNat (by omega)
          have hpl := pre13_length t HTA.out i (by omega)
          refine (appendPat' w6 gt 95 z95 (pre13 t i) A6 4 (lg (b - 48 + 10).toNat) false (3 + 7 * (i : Int)) 7 (by rw [hpl]; omega) (by rw [l3 false]; rfl) HX6.out z95_length (by omega) (by omega) 4 l1 HC7.out (by omega) l2 (by omega) (by omega)).mono ?_
          rintro e w7 ⟨rfl, hx, hu⟩
          have HX7 := Aside0.mk hx
          have HB7 := Aside0.mk (HB6.out.trans (hu.below hge HB6.out.size))
          clear hx hu HX6 HB6 HC7 hcell l1 l2 l3 hpl
          go_wp2
          go_roundw
          case rel => exact ⟨i + 1, by omega, by go_num, by go_num, ⟨by
            have := HX7.out
            have hlx : lix t i = (b - 48 + 10).toNat := by unfold lix; rw [HBD0.out, HPR.out, HBD.out]; simp; try omega
            rw [show pre13 t (i + 1) = pre13 t i ++ bars false (lg (b - 48 + 10).toNat) by unfold pre13; rw [left13_next, hlx, List.append_assoc]]
            exact this⟩, HB7⟩
          case measure => simp [intOf]; omega
      · obtain rfl : i = 6 := by omega
        go_wp2_with fail
        refine (pat165 _).mono ?_
        rintro e w4 ⟨A4, c4, rfl, hc4, hC4, hb4⟩
        have HX4 := Aside0.mk (HX.out.below hb4 HX.out.lt)
        have HB4 := Aside0.mk (HB.out.trans (hb4.mono HB.out.size))
        have HC4 := Aside0.mk hC4
        clear hb4 hC4 HX HB
        go_wp2_with fail
        have hpl := pre13_length t HTA.out 6 (by omega)
        refine (appendPat' w4 gt 95 z95 (pre13 t 6) A4 c4 [1, 1, 1, 1, 1] false 45 5 (by rw [hpl]; rfl) rfl HX4.out z95_length (by omega) (by omega) 5 rfl HC4.out hc4 (by decide) (by omega) (by omega)).mono ?_
        rintro e w5 ⟨rfl, hx, hu⟩
        have HX5 := Aside0.mk hx
        have HB5 := Aside0.mk (HB4.out.trans (hu.below hge HB4.out.size))
        clear hx hu HX4 HB4 HC4 hc4 hpl hlt hi
        go_wp2
        go_loopw [17, 20] (fun pv v wr => ∃ i : Nat, i ≤ 6 ∧ v = .int .i64 (7 + (i : Int)) ∧ pv = .int .i64 (50 + 7 * (i : Int)) ∧ Aside0 (Blk wr gt 4 (bools (put z95 (mid13 t i))).toArray) ∧ Aside0 (Below w.heap.size w wr)) (fun _ v _ => 13 - (intOf v).toNat)
        case atStart => exact ⟨0, by omega, rfl, rfl, ⟨by have := HX5.out; simpa [mid13, digs_] using this⟩, HB5⟩
        case round =>
          obtain ⟨i, hi, rfl, rfl, HX, HB⟩ := hrel
          clear HX5 HB5
          by_cases hlt : i < 6
          · have d1 : decide (7 + (i : Int) ≤ 12) = true := decide_eq_true (by omega)
            have hit : 7 + i < t.size := by have := HTS.out; omega
            obtain ⟨b, hbt, hb48, hb57, hbd⟩ := dgt_at t 13 HTS.out HTA.out (7 + i) (by omega) hit
            have HBD := Aside0.mk hbd
            clear hbd
            go_wp2_with fail
            refine (pats164 _ (b - 48) (by omega) (by omega)).mono ?_
            rintro e w6 ⟨ad, c6, A6, c7, rfl, hcell, hc7, hC7, hb6⟩
            have HX6 := Aside0.mk (HX.out.below hb6 HX.out.lt)
            have HB6 := Aside0.mk (HB.out.trans (hb6.mono HB.out.size))
            have HC7 := Aside0.mk hC7
            clear hC7 hb6 HX HB
            go_wp2_with fail
            obtain ⟨l1, l2, l3⟩ := lp_facts (b - 48) (by omega) (by omega)
            have hpl := mid13_length t HTA.out i (by omega)
            refine (appendPat' w6 gt 95 z95 (mid13 t i) A6 c7 (lp (b - 48)) true (50 + 7 * (i : Int)) 7 (by rw [hpl]; omega) (by rw [l3 true]; rfl) HX6.out z95_length (by omega) (by omega) 4 l1 HC7.out hc7 l2 (by omega) (by omega)).mono ?_
            rintro e w7 ⟨rfl, hx, hu⟩
            have HX7 := Aside0.mk hx
            have HB7 := Aside0.mk (HB6.out.trans (hu.below hge HB6.out.size))
            clear hx hu HX6 HB6 HC7 hcell l1 l2 l3 hpl
            go_wp2
            go_roundw
            case rel => exact ⟨i + 1, by omega, by go_num, by go_num, ⟨by
              have := HX7.out
              rw [show mid13 t (i + 1) = mid13 t i ++ bars true (lp (b - 48)) by unfold mid13; rw [digs_next, HBD.out]; simp only [List.append_assoc]]
              exact this⟩, HB7⟩
            case measure => simp [intOf]; omega
          · obtain rfl : i = 6 := by omega
            go_wp2_with fail
            refine (pat163 _).mono ?_
            rintro e w6 ⟨A6, c6, rfl, hc6, hC6, hb6⟩
            have HX6 := Aside0.mk (HX.out.below hb6 HX.out.lt)
            have HB6 := Aside0.mk (HB.out.trans (hb6.mono HB.out.size))
            have HC6 := Aside0.mk hC6
            clear hb6 hC6 HX HB
            go_wp2_with fail
            have hpl := mid13_length t HTA.out 6 (by omega)
            refine (appendPat' w6 gt 95 z95 (mid13 t 6) A6 c6 [1, 1, 1] true 92 3 (by rw [hpl]; rfl) rfl HX6.out z95_length (by omega) (by omega) 3 rfl HC6.out hc6 (by decide) (by omega) (by omega)).mono ?_
            rintro e w7 ⟨rfl, hx, hu⟩
            have HX7 := Aside0.mk hx
            have HB7 := Aside0.mk (HB6.out.trans (hu.below hge HB6.out.size))
            clear hx hu HX6 HB6 HC6 hc6 hpl
            go_wp2
            go_ret2
            have hlen := code13_length t HTA.out
            refine ⟨_, rfl, ?_, HB7.out⟩
            have hx' : Blk w7 gt 4 (bools (put z95 (code13 t))).toArray := HX7.out
            rw [put_all _ _ (by rw [hlen, z95_length])] at hx'
            exact Kd.R_mono (R_of_blk hx' hlen (by omega) hge) (fun _ _ => trivial)
  · have HD := Aside0.mk hd
    subst ht
    have HCK := Aside0.mk hck
    have HS := Aside0.mk (show t.size = 13 by omega)
    clear hd hck
    go_enter Tryz.func167, Tryz.ntmps167
    go_wp2_with fail
    refine (ck161 _ t 12 HS.out (by omega)).mono ?_
    rintro e wz ⟨hp, hb⟩
    have he : e = .returned (.tuple #[.bool true, .nilIface]) := by
      rcases hp with ⟨_, h⟩ | ⟨h, _⟩
      · rw [h, decide_eq_true HCK.out]
      · exact absurd HD.out h
    subst he
    have HBZ := Aside0.mk ((below_alloc (Below.refl _ w) (.cells #[] 93)).trans (hb.mono (by simp)))
    clear hp hb
    go_wp2_with fail
    clear hsI
    refine (numeric _ t (by have := HTS.out; omega) t.size (Nat.le_refl _) (isDig_all t 13 HTS.out HTA.out) (fun h => absurd h (Nat.lt_irrefl _))).mono ?_
    rintro e w2 ⟨v, rfl, hv, hb2⟩
    obtain rfl : v = .nilIface := by unfold NumPost at hv; rw [if_pos rfl] at hv; exact hv
    have HB2 := Aside0.mk (HBZ.out.trans (hb2.mono HBZ.out.size))
    clear hv hb2 HBZ
    have h0t : 0 < t.size := by have := HTS.out; omega
    obtain ⟨b0, hbt0, hb048, hb057, hbd0⟩ := dgt_at t 13 HTS.out HTA.out 0 (by omega) h0t
    have HBD0 := Aside0.mk hbd0
    clear hbd0
    go_wp2_with fail
    refine (first169 _ (b0 - 48) (by omega) (by omega)).mono ?_
    rintro e w21 ⟨ad1, c1, rfl, hcell1, hb21⟩
    obtain ⟨pv, hpv⟩ : ∃ pv, rd fde (b0 - 48) = pv := ⟨_, rfl⟩
    rw [hpv] at hcell1
    have HPV := Aside0.mk hpv
    have HB21 := Aside0.mk (HB2.out.trans (hb21.mono HB2.out.size))
    clear hpv hb21 HB2
    go_wp2_with fail
    obtain ⟨gt, hgt⟩ : ∃ gt, w21.heap.size = gt := ⟨_, rfl⟩
    obtain ⟨w3, hw3⟩ : ∃ w3, w21.alloc (.cells (bools z95).toArray 4) = w3 := ⟨_, rfl⟩
    have hbk : Blk w3 gt 4 (bools (put z95 [])).toArray := by rw [← hw3, ← hgt, put_nil]; exact Blk.new _ _ _
    have hb3 : Below w.heap.size w w3 := by rw [← hw3]; exact HB21.out.trans ((below_alloc (Below.refl _ w21) _).mono HB21.out.size)
    have hge : w.heap.size ≤ gt := by rw [← hgt]; exact HB21.out.size
    have HB3 := Aside0.mk hb3
    have HBK := Aside0.mk hbk
    simp only [hw3, hgt]
    clear hb3 hbk hw3 hgt HB21 hmk hcell1
    refine (pat163 _).mono ?_
    rintro e w4 ⟨A4, c4, rfl, hc4, hC4, hb4⟩
    have HBK4 := Aside0.mk (HBK.out.below hb4 HBK.out.lt)
    have HB4 := Aside0.mk (HB3.out.trans (hb4.mono HB3.out.size))
    have HC4 := Aside0.mk hC4
    clear hb4 hC4 HBK HB3
    go_wp2_with fail
    refine (appendPat' w4 gt 95 z95 [] A4 c4 [1, 1, 1] true 0 3 rfl rfl HBK4.out z95_length (by omega) (by omega) 3 rfl HC4.out hc4 (by decide) (by omega) (by omega)).mono ?_
    rintro e w5 ⟨rfl, hx, hu⟩
    have HX5 := Aside0.mk hx
    have HB5 := Aside0.mk (HB4.out.trans (hu.below hge HB4.out.size))
    clear hx hu HBK4 HB4 HC4 hc4
    go_wp2
    go_loopw [17, 18] (fun uv v wr => ∃ i : Nat, i ≤ 6 ∧ v = .int .i64 (1 + (i : Int)) ∧ uv = .int .i64 (3 + 7 * (i : Int)) ∧ Aside0 (Blk wr gt 4 (bools (put z95 (pre13 t i))).toArray) ∧ Aside0 (Below w.heap.size w wr)) (fun _ v _ => 8 - (intOf v).toNat)
    case atStart => exact ⟨0, by omega, rfl, rfl, ⟨by have := HX5.out; simpa [pre13, left13] using this⟩, HB5⟩
    case round =>
      obtain ⟨i, hi, rfl, rfl, HX, HB⟩ := hrel
      clear HX5 HB5
      by_cases hlt : i < 6
      · have d1 : decide (1 + (i : Int) ≤ 6) = true := decide_eq_true (by omega)
        have hit : 1 + i < t.size := by have := HTS.out; omega
        obtain ⟨b, hbt, hb48, hb57, hbd⟩ := dgt_at t 13 HTS.out HTA.out (1 + i) (by omega) hit
        have HBD := Aside0.mk hbd
        clear hbd
        have hpb := par_bit (b0 - 48) (by omega) (by omega) i hlt
        rw [HPV.out] at hpb
        obtain ⟨P, hP⟩ : ∃ P, par (b0 - 48) i = P := ⟨_, rfl⟩
        rw [hP] at hpb
        have HP := Aside0.mk hP
        clear hP
        cases P
        · have HPR := Aside0.mk HP.out
          go_wp2_with fail
          refine (pats170 _ (b - 48).toNat (by omega)).mono ?_
          rintro e w6 ⟨g6, A6, rfl, hcell, hC7, hb6⟩
          have HX6 := Aside0.mk (HX.out.below hb6 HX.out.lt)
          have HB6 := Aside0.mk (HB.out.trans (hb6.mono HB.out.size))
          have HC7 := Aside0.mk hC7
          clear hC7 hb6 HX HB hpb
          go_wp2_with fail
          obtain ⟨l1, l2, l3⟩ := lg_facts (b - 48).toNat (by omega)
          have hpl := pre13_length t HTA.out i (by omega)
          refine (appendPat' w6 gt 95 z95 (pre13 t i) A6 4 (lg (b - 48).toNat) false (3 + 7 * (i : Int)) 7 (by rw [hpl]; omega) (by rw [l3 false]; rfl) HX6.out z95_length (by omega) (by omega) 4 l1 HC7.out (by omega) l2 (by omega) (by omega)).mono ?_
          rintro e w7 ⟨rfl, hx, hu⟩
          have HX7 := Aside0.mk hx
          have HB7 := Aside0.mk (HB6.out.trans (hu.below hge HB6.out.size))
          clear hx hu HX6 HB6 HC7 hcell l1 l2 l3 hpl
          go_wp2
          go_roundw
          case rel => exact ⟨i + 1, by omega, by go_num, by go_num, ⟨by
            have := HX7.out
            have hlx : lix t i = (b - 48).toNat := by unfold lix; rw [HBD0.out, HPR.out, HBD.out]; simp; try omega
            rw [show pre13 t (i + 1) = pre13 t i ++ bars false (lg (b - 48).toNat) by unfold pre13; rw [left13_next, hlx, List.append_assoc]]
            exact this⟩, HB7⟩
          case measure => simp [intOf]; omega
        · have HPR := Aside0.mk HP.out
          go_wp2_with fail
          refine (pats170 _ (b - 48 + 10).toNat (by omega)).mono ?_
          rintro e w6 ⟨g6, A6, rfl, hcell, hC7, hb6⟩
          have HX6 := Aside0.mk (HX.out.below hb6 HX.out.lt)
          have HB6 := Aside0.mk (HB.out.trans (hb6.mono HB.out.size))
          have HC7 := Aside0.mk hC7
          clear hC7 hb6 HX HB hpb
          go_wp2_with fail
          obtain ⟨l1, l2, l3⟩ := lg_facts (b - 48 + 10).toNat (by omega)
          have hpl := pre13_length t HTA.out i (by omega)
          refine (appendPat' w6 gt 95 z95 (pre13 t i) A6 4 (lg (b - 48 + 10).toNat) false (3 + 7 * (i : Int)) 7 (by rw [hpl]; omega) (by rw [l3 false]; rfl) HX6.out z95_length (by omega) (by omega) 4 l1 HC7.out (by omega) l2 (by omega) (by omega)).mono ?_
          rintro e w7 ⟨rfl, hx, hu⟩
          have HX7 := Aside0.mk hx
          have HB7 := Aside0.mk (HB6.out.trans (hu.below hge HB6.out.size))
          clear hx hu HX6 HB6 HC7 hcell l1 l2 l3 hpl
          go_wp2
          go_roundw
          case rel => exact ⟨i + 1, by omega, by go_num, by go_num, ⟨by
            have := HX7.out
            have hlx : lix t i = (b - 48 + 10).toNat := by unfold lix; rw [HBD0.out, HPR.out, HBD.out]; simp; try omega
            rw [show pre13 t (i + 1) = pre13 t i ++ bars false (lg (b - 48 + 10).toNat) by unfold pre13; rw [left13_next, hlx, List.append_assoc]]
            exact this⟩, HB7⟩
          case measure => simp [intOf]; omega
      · obtain rfl : i = 6 := by omega
        go_wp2_with fail
        refine (pat165 _).mono ?_
        rintro e w4 ⟨A4, c4, rfl, hc4, hC4, hb4⟩
        have HX4 := Aside0.mk (HX.out.below hb4 HX.out.lt)
        have HB4 := Aside0.mk (HB.out.trans (hb4.mono HB.out.size))
        have HC4 := Aside0.mk hC4
        clear hb4 hC4 HX HB
        go_wp2_with fail
        have hpl := pre13_length t HTA.out 6 (by omega)
        refine (appendPat' w4 gt 95 z95 (pre13 t 6) A4 c4 [1, 1, 1, 1, 1] false 45 5 (by rw [hpl]; rfl) rfl HX4.out z95_length (by omega) (by omega) 5 rfl HC4.out hc4 (by decide) (by omega) (by omega)).mono ?_
        rintro e w5 ⟨rfl, hx, hu⟩
        have HX5 := Aside0.mk hx
        have HB5 := Aside0.mk (HB4.out.trans (hu.below hge HB4.out.size))
        clear hx hu HX4 HB4 HC4 hc4 hpl hlt hi
        go_wp2
        go_loopw [17, 20] (fun pv v wr => ∃ i : Nat, i ≤ 6 ∧ v = .int .i64 (7 + (i : Int)) ∧ pv = .int .i64 (50 + 7 * (i : Int)) ∧ Aside0 (Blk wr gt 4 (bools (put z95 (mid13 t i))).toArray) ∧ Aside0 (Below w.heap.size w wr)) (fun _ v _ => 13 - (intOf v).toNat)
        case atStart => exact ⟨0, by omega, rfl, rfl, ⟨by have := HX5.out; simpa [mid13, digs_] using this⟩, HB5⟩
        case round =>
          obtain ⟨i, hi, rfl, rfl, HX, HB⟩ := hrel
          clear HX5 HB5
          by_cases hlt : i < 6
          · have d1 : decide (7 + (i : Int) ≤ 12) = true := decide_eq_true (by omega)
            have hit : 7 + i < t.size := by have := HTS.out; omega
            obtain ⟨b, hbt, hb48, hb57, hbd⟩ := dgt_at t 13 HTS.out HTA.out (7 + i) (by omega) hit
            have HBD := Aside0.mk hbd
            clear hbd
            go_wp2_with fail
            refine (pats164 _ (b - 48) (by omega) (by omega)).mono ?_
            rintro e w6 ⟨ad, c6, A6, c7, rfl, hcell, hc7, hC7, hb6⟩
            have HX6 := Aside0.mk (HX.out.below hb6 HX.out.lt)
            have HB6 := Aside0.mk (HB.out.trans (hb6.mono HB.out.size))
            have HC7 := Aside0.mk hC7
            clear hC7 hb6 HX HB
            go_wp2_with fail
            obtain ⟨l1, l2, l3⟩ := lp_facts (b - 48) (by omega) (by omega)
            have hpl := mid13_length t HTA.out i (by omega)
            refine (appendPat' w6 gt 95 z95 (mid13 t i) A6 c7 (lp (b - 48)) true (50 + 7 * (i : Int)) 7 (by rw [hpl]; omega) (by rw [l3 true]; rfl) HX6.out z95_length (by omega) (by omega) 4 l1 HC7.out hc7 l2 (by omega) (by omega)).mono ?_
            rintro e w7 ⟨rfl, hx, hu⟩
            have HX7 := Aside0.mk hx
            have HB7 := Aside0.mk (HB6.out.trans (hu.below hge HB6.out.size))
            clear hx hu HX6 HB6 HC7 hcell l1 l2 l3 hpl
            go_wp2
            go_roundw
            case rel => exact ⟨i + 1, by omega, by go_num, by go_num, ⟨by
              have := HX7.out
              rw [show mid13 t (i + 1) = mid13 t i ++ bars true (lp (b - 48)) by unfold mid13; rw [digs_next, HBD.out]; simp only [List.append_assoc]]
              exact this⟩, HB7⟩
            case measure => simp [intOf]; omega
          · obtain rfl : i = 6 := by omega
            go_wp2_with fail
            refine (pat163 _).mono ?_
            rintro e w6 ⟨A6, c6, rfl, hc6, hC6, hb6⟩
            have HX6 := Aside0.mk (HX.out.below hb6 HX.out.lt)
            have HB6 := Aside0.mk (HB.out.trans (hb6.mono HB.out.size))
            have HC6 := Aside0.mk hC6
            clear hb6 hC6 HX HB
            go_wp2_with fail
            have hpl := mid13_length t HTA.out 6 (by omega)
            refine (appendPat' w6 gt 95 z95 (mid13 t 6) A6 c6 [1, 1, 1] true 92 3 (by rw [hpl]; rfl) rfl HX6.out z95_length (by omega) (by omega) 3 rfl HC6.out hc6 (by decide) (by omega) (by omega)).mono ?_
            rintro e w7 ⟨rfl, hx, hu⟩
            have HX7 := Aside0.mk hx
            have HB7 := Aside0.mk (HB6.out.trans (hu.below hge HB6.out.size))
            clear hx hu HX6 HB6 HC6 hc6 hpl
            go_wp2
            go_ret2
            have hlen := code13_length t HTA.out
            refine ⟨_, rfl, ?_, HB7.out⟩
            have hx' : Blk w7 gt 4 (bools (put z95 (code13 t))).toArray := HX7.out
            rw [put_all _ _ (by rw [hlen, z95_length])] at hx'
            exact Kd.R_mono (R_of_blk hx' hlen (by omega) hge) (fun _ _ => trivial)

set_option maxHeartbeats 4000000 in
set_option maxRecDepth 100000 in
theorem enc13_no (w : World) (mv : Value) (s : ByteArray) (hm : s.size ≤ 2147483647) (h : ∀ t, ¬ Full s 12 t) :
    Calls Tryz.prog 167 #[.agg #[], .string s, mv] w fun e w' => ∃ v x, e = .returned (.tuple #[v, .iface 141 x]) ∧ Below w.heap.size w w' := by
  have hsplit : (∃ (e : (s.size : Int) = 12), ¬ AllDig s 12) ∨ (∃ (e : (s.size : Int) = 13), ¬ AllDig s 12) ∨ (∃ (e : (s.size : Int) = 13), AllDig s 12 ∧ dgt s 12 ≠ chk s 12) ∨ ((s.size : Int) ≠ 12 ∧ (s.size : Int) ≠ 13) := by
    by_cases hA : (s.size : Int) = 12
    · exact .inl ⟨hA, fun hd => h _ (.inl ⟨by omega, hd, rfl⟩)⟩
    · by_cases hB : (s.size : Int) = 13
      · by_cases hd : AllDig s 12
        · refine .inr (.inr (.inl ⟨hB, hd, fun hc => h s (.inr ⟨by omega, fun i hi => ?_, hc, rfl⟩)⟩))
          by_cases e : i = 12
          · subst e; rw [hc]; exact (chk_range s 12).2
          · exact hd i (by omega)
        · exact .inr (.inl ⟨hB, hd⟩)
      · exact .inr (.inr (.inr ⟨hA, hB⟩))
  clear h
  rcases hsplit with ⟨hsI, hd⟩ | ⟨hsI, hd⟩ | ⟨hsI, hd, hck⟩ | ⟨hA, hB⟩
  · have HD := Aside0.mk hd
    have HS := Aside0.mk (show s.size = 12 by omega)
    have HFE := methFE
    clear hd
    go_enter Tryz.func167, Tryz.ntmps167
    go_wp2_with fail
    refine (ck160 _ s 12 HS.out (by omega)).mono ?_
    rintro e w1 ⟨hp, hb⟩
    have he : e = .returned (.tuple #[.int .i64 0, .iface 198 (.agg #[.string ⟨#[70, 111, 114, 109, 97, 116, 69, 120, 99, 101, 112, 116, 105, 111, 110]⟩, .nilIface])]) := by
      rcases hp with ⟨h, _⟩ | ⟨_, h⟩
      · exact absurd h HD.out
      · exact h
    subst he
    have HB1 := Aside0.mk ((below_alloc (Below.refl _ w) (.cells #[] 93)).trans (hb.mono (by simp)))
    clear hp hb
    go_wp2_with fail
    refine (errFE _ _).mono ?_
    rintro e w2 ⟨rfl, hb⟩
    have HB2 := Aside0.mk (HB1.out.trans (hb.mono HB1.out.size))
    clear hb HB1
    go_wp2_with (go_at_call 96; refine (newWExc _ _).mono ?_; rintro e w' ⟨x, rfl, hb⟩)
    go_ret2
    exact ⟨_, x, rfl, HB2.out.trans ((below_alloc (Below.refl _ _) _).trans (hb.mono (by simp)) |>.mono HB2.out.size)⟩
  · have HD := Aside0.mk hd
    have HS := Aside0.mk (show s.size = 13 by omega)
    have HFE := methFE
    clear hd
    go_enter Tryz.func167, Tryz.ntmps167
    go_wp2_with fail
    refine (ck161 _ s 12 HS.out (by omega)).mono ?_
    rintro e w1 ⟨hp, hb⟩
    have he : e = .returned (.tuple #[.bool false, .iface 198 (.agg #[.string ⟨#[70, 111, 114, 109, 97, 116, 69, 120, 99, 101, 112, 116, 105, 111, 110]⟩, .nilIface])]) := by
      rcases hp with ⟨h, _⟩ | ⟨_, h⟩
      · exact absurd h HD.out
      · exact h
    subst he
    have HB1 := Aside0.mk ((below_alloc (Below.refl _ w) (.cells #[] 93)).trans (hb.mono (by simp)))
    clear hp hb
    go_wp2_with fail
    refine (errFE _ _).mono ?_
    rintro e w2 ⟨rfl, hb⟩
    have HB2 := Aside0.mk (HB1.out.trans (hb.mono HB1.out.size))
    clear hb HB1
    go_wp2_with (go_at_call 96; refine (newWExc _ _).mono ?_; rintro e w' ⟨x, rfl, hb⟩)
    go_ret2
    exact ⟨_, x, rfl, HB2.out.trans ((below_alloc (Below.refl _ _) _).trans (hb.mono (by simp)) |>.mono HB2.out.size)⟩
  · have HD := Aside0.mk hd
    have HCK := Aside0.mk hck
    have HS := Aside0.mk (show s.size = 13 by omega)
    have HFE := methFE
    clear hd hck
    go_enter Tryz.func167, Tryz.ntmps167
    go_wp2_with fail
    refine (ck161 _ s 12 HS.out (by omega)).mono ?_
    rintro e w1 ⟨hp, hb⟩
    have he : e = .returned (.tuple #[.bool false, .nilIface]) := by
      rcases hp with ⟨_, h⟩ | ⟨h, _⟩
      · rw [h, decide_eq_false HCK.out]
      · exact absurd HD.out h
    subst he
    have HB1 := Aside0.mk ((below_alloc (Below.refl _ w) (.cells #[] 93)).trans (hb.mono (by simp)))
    clear hp hb HFE
    go_wp2_with (go_at_call 96; refine (newWExc _ _).mono ?_; rintro e w' ⟨x, rfl, hb⟩)
    go_ret2
    exact ⟨_, x, rfl, HB1.out.trans ((below_alloc (Below.refl _ _) _).trans (hb.mono (by simp)) |>.mono HB1.out.size)⟩
  · have d1 : ((s.size : Int) == 12) = false := beq_eq_false_iff_ne.2 hA
    have d2 : ((s.size : Int) == 13) = false := beq_eq_false_iff_ne.2 hB
    clear hA hB
    go_enter Tryz.func167, Tryz.ntmps167
    go_wp2_with (go_at_call 96; refine (newWExc _ _).mono ?_; rintro e w' ⟨x, rfl, hb⟩)
    go_ret2
    exact ⟨_, x, rfl, (below_alloc (below_alloc (Below.refl _ w) (.cells #[] 93)) _).trans (hb.mono (by simp; omega))⟩

def dS (m : Nat) : ByteArray := strOfNums [bt (dW m) 3, bt (dW m) 2, bt (dW m) 1, bt (dW m) 0]
theorem dS_facts (m : Nat) (h : m < 10) : (dS m).size = 4 ∧ bF (dS m) 0 4 false = bars false (lg (m + 10)) := by
  have : ∀ m : Fin 10, (dS m.val).size = 4 ∧ bF (dS m.val) 0 4 false = bars false (lg (m.val + 10)) := by decide +kernel
  exact this ⟨m, h⟩
/-- odDigit by the set B. -/
theorem dig68B (w0 w : World) (v : Value) (l : List Bool) (b : Int) (h0 : 48 ≤ b) (h9 : b ≤ 57) (hl : l.length ≤ 900000) (hB : Below w0.heap.size w0 w) (hr : Kd.R Kd.bool 4 w w0.heap.size (fun _ => True) v l) :
    Calls Tryz.prog 68 #[v, .int .u8 b, .int .u8 66] w fun e w' => ∃ v', e = .returned v' ∧ Kd.R Kd.bool 4 w' w0.heap.size (fun _ => True) v' (l ++ bars false (lg (b - 48 + 10).toNat)) ∧ Below w0.heap.size w0 w' := by
  obtain ⟨m, hm⟩ : ∃ m : Nat, b = 48 + (m : Int) := ⟨(b - 48).toNat, by omega⟩
  have hm10 : m < 10 := by omega
  subst hm
  obtain ⟨h1, h2, _⟩ := dW_facts m hm10
  obtain ⟨h3, h4⟩ := dS_facts m hm10
  have he := odBarsE (dS m) l false (by omega) hl
  rw [h3, h4] at he
  have hd : Ev (fun k => F.spec_odDigit.f k l (48 + (m : Int)) 66) (l ++ bars false (lg (m + 10))) := by
    refine Ev.congr (f := fun k => (F.spec_odBars.f k l (dS m) false).bind fun t => some t) (fun k => ?_) (he.bind (Ev.now _))
    unfold F.spec_odDigit.f
    rw [h1]
    simp only [Option.bind_some]
    rw [if_pos trivial, if_pos (by omega), if_pos (by omega), if_pos (by omega), if_pos (by omega)]
    rfl
  obtain ⟨k, hk⟩ := hd.rounds
  refine (F.spec_odDigit.calls k (fun _ => True) v l _ 66 _ w0 w hB hr hk).mono ?_
  rintro e w' ⟨v', rfl, h1, h2, _⟩
  refine ⟨v', rfl, ?_, h2⟩
  rw [show (48 + (m : Int) - 48 + 10).toNat = m + 10 by omega]
  exact Kd.R_mono h1 (fun _ _ => trivial)
def sets13 (m : Nat) : ByteArray := [(⟨#[65, 65, 65, 65, 65, 65]⟩ : ByteArray), ⟨#[65, 65, 66, 65, 66, 66]⟩, ⟨#[65, 65, 66, 66, 65, 66]⟩, ⟨#[65, 65, 66, 66, 66, 65]⟩, ⟨#[65, 66, 65, 65, 66, 66]⟩, ⟨#[65, 66, 66, 65, 65, 66]⟩, ⟨#[65, 66, 66, 66, 65, 65]⟩, ⟨#[65, 66, 65, 66, 65, 66]⟩, ⟨#[65, 66, 65, 66, 66, 65]⟩, ⟨#[65, 66, 66, 65, 66, 65]⟩].getD m ⟨#[]⟩
theorem sets13_facts (m : Nat) (h : m < 10) : F.spec_odSets.f (48 + (m : Int)) = some (sets13 m) ∧ (sets13 m).size = 6 ∧ ∀ k : Fin 6, bt (sets13 m) (k.val : Nat) = if par (m : Int) k.val then 66 else 65 := by
  have : ∀ m : Fin 10, F.spec_odSets.f (48 + ((m.val : Nat) : Int)) = some (sets13 m.val) ∧ (sets13 m.val).size = 6 ∧ ∀ k : Fin 6, bt (sets13 m.val) (k.val : Nat) = if par ((m.val : Nat) : Int) k.val then 66 else 65 := by decide +kernel
  exact this ⟨m, h⟩

theorem bt_ext (s : ByteArray) (a c i : Nat) (hc : c ≤ s.size) (hi : a + i < c) : bt (s.extract a c) i = bt s ((a + i : Nat) : Int) := by
  have h1 : i < (s.extract a c).size := by rw [ByteArray.size_extract]; omega
  rw [← bt_get _ _ h1, ← bt_get s (a + i) (by omega)]
  congr 2
  simp [ByteArray.getElem_extract]
set_option maxHeartbeats 4000000 in
set_option maxRecDepth 100000 in
theorem mod13 (w : World) (t : ByteArray) (hts : t.size = 13) (hta : AllDig t 13) :
    Calls Tryz.prog 44 #[.int .i64 7, .string t] w fun e w' => ∃ v, e = .returned v ∧ Kd.R Kd.bool 4 w' w.heap.size (fun _ => True) v (code13 t) ∧ Below w.heap.size w w' := by
  have HTS := Aside0.mk hts
  have HTA := Aside0.mk hta
  have hsi : (t.size : Int) = 13 := by omega
  have h0t : 0 < t.size := by omega
  obtain ⟨b0, hbt0, hb048, hb057, hbd0⟩ := dgt_at t 13 hts hta 0 (by omega) h0t
  obtain ⟨m, hm⟩ : ∃ m : Nat, b0 = 48 + (m : Int) := ⟨(b0 - 48).toNat, by omega⟩
  have hm10 : m < 10 := by omega
  obtain ⟨hst, hss, hsb⟩ := sets13_facts m hm10
  rw [← hm] at hst
  have HST := Aside0.mk hst
  have HSS := Aside0.mk hss
  have HSB := Aside0.mk hsb
  have HD0 := Aside0.mk (show dgt t 0 = m by rw [hbd0]; omega)
  clear hts hta hst hss hsb hbd0 hm
  go_enter Tryz.func44, Tryz.ntmps44
  go_wp2_with fail
  refine (bars66 w _ _ ⟨#[49, 49, 49]⟩ [] true (bars true [1, 1, 1]) (by decide +kernel) (by decide) (by simp) (Below.refl _ _) (Kd.R_nil _ _ _ _ _)).mono ?_
  rintro e w1 ⟨v1, rfl, hr1, hb1⟩
  have HR1 := Aside0.mk hr1
  have HB1 := Aside0.mk hb1
  clear hr1 hb1
  go_wp2_with fail
  go_region_with (go_at_call 69; refine (F.spec_odSets.calls b0 (sets13 m) _ HST.out).mono ?_; rintro e w' ⟨rfl, hb2⟩)
  have HR2 := Aside0.mk (Kd.R_below (by first | exact HR1.out | exact Kd.R_drew HR1.out | exact Kd.R_drewN HR1.out _) hb2)
  have HB2 := Aside0.mk (HB1.out.trans ((show Below w1.heap.size w1 _ from ⟨hb2.os, hb2.tape, hb2.output, hb2.size, hb2.block⟩).mono HB1.out.size))
  clear hb2
  go_wp2_with fail
  obtain ⟨lf, hlf⟩ : ∃ x, t.extract 1 7 = x := ⟨_, rfl⟩
  have HLF := Aside0.mk hlf
  have HLS := Aside0.mk (show lf.size = 6 by rw [← hlf, ByteArray.size_extract]; have := HTS.out; omega)
  obtain ⟨st, hst⟩ : ∃ x, sets13 m = x := ⟨_, rfl⟩
  rw [hst] at HSS HSB
  rw [hlf, hst]
  clear hlf hst
  go_loopw [5, 52] (fun rv v wr => ∃ i : Nat, i ≤ 6 ∧ v = .int .i64 i ∧ Aside0 (Kd.R Kd.bool 4 wr w.heap.size (fun _ => True) rv (pre13 t i)) ∧ Aside0 (Below w.heap.size w wr)) (fun _ v _ => 6 - (intOf v).toNat)
  case atStart => exact ⟨0, by omega, rfl, ⟨by have := HR2.out; simpa [pre13, left13] using this⟩, HB2⟩
  case round =>
    obtain ⟨i, hi, rfl, HR, HB⟩ := hrel
    clear HR1 HB1 HR2 HB2
    by_cases hlt : i < 6
    · have d1 : decide ((i : Int) < 6) = true := decide_eq_true (by omega)
      have hil : i < lf.size := by have := HLS.out; omega
      obtain ⟨b, hb⟩ : ∃ b : Int, ((lf[i]'hil).toNat : Int) = b := ⟨_, rfl⟩
      have hbb : 48 ≤ b ∧ b ≤ 57 ∧ dgt t (1 + i) = b - 48 := by
        have hit : 1 + i < t.size := by have := HTS.out; omega
        obtain ⟨b', h1, h2, h3, h4⟩ := dgt_at t 13 HTS.out HTA.out (1 + i) (by omega) hit
        have e : b = b' := by
          rw [← hb, ← h1, bt_get lf i hil, bt_get t (1 + i) hit, ← HLF.out, bt_ext t 1 7 i (by have := HTS.out; omega) (by omega)]
        rw [e]; exact ⟨h2, h3, h4⟩
      obtain ⟨hb48, hb57, hbd⟩ := hbb
      have HBD := Aside0.mk hbd
      have hsi2 : i < st.size := by have := HSS.out; omega
      have hsb0 : ((st[i]'hsi2).toNat : Int) = if par (m : Int) i then 66 else 65 := by rw [bt_get st i hsi2]; exact HSB.out ⟨i, hlt⟩
      have hpl : (pre13 t i).length ≤ 900000 := by rw [pre13_length t HTA.out i (by omega)]; omega
      clear hbd
      obtain ⟨P, hP⟩ : ∃ P, par (m : Int) i = P := ⟨_, rfl⟩
      cases P
      · have hsv : ((st[i]'hsi2).toNat : Int) = 65 := by rw [hsb0, hP]; rfl
        have HPR := Aside0.mk hP
        clear hsb0 hP
        go_wp2_with fail
        go_region_with (go_at_call 68; refine (dig68 w _ _ (pre13 t i) b 65 false (Or.inl ⟨rfl, rfl⟩) (by omega) (by omega) (by assumption) ?side1 ?side2).mono ?_; (case side1 => repeat (first | exact HB.out | apply below_alloc | apply pw_below_drewN | apply below_drew1)); (case side2 => repeat (first | exact HR.out | (with_reducible refine Kd.R_drewN ?_ _) | (with_reducible refine Kd.R_drew ?_))); rintro e w' ⟨v', rfl, hr2, hb2⟩)
        all_goals
          have HR2 := Aside0.mk hr2
          have HB2 := Aside0.mk hb2
          clear hr2 hb2 hpl
          go_wp2
          go_roundw
          case rel => exact ⟨i + 1, by omega, by go_num, ⟨by
            have hlx : lix t i = (b - 48).toNat := by unfold lix; rw [HD0.out, HPR.out, HBD.out]; simp; try omega
            have := HR2.out
            rw [show lp (b - 48) = lg (b - 48).toNat by unfold lg; rw [if_pos (by omega), show (((b - 48).toNat : Nat) : Int) = b - 48 by omega]] at this
            rw [show pre13 t (i + 1) = pre13 t i ++ bars false (lg (b - 48).toNat) by unfold pre13; rw [left13_next, hlx]; simp only [List.append_assoc]]
            exact this⟩, HB2⟩
          case measure => simp [intOf]; omega
      · have hsv : ((st[i]'hsi2).toNat : Int) = 66 := by rw [hsb0, hP]; rfl
        have HPR := Aside0.mk hP
        clear hsb0 hP
        go_wp2_with fail
        go_region_with (go_at_call 68; refine (dig68B w _ _ (pre13 t i) b (by omega) (by omega) (by assumption) ?side1 ?side2).mono ?_; (case side1 => repeat (first | exact HB.out | apply below_alloc | apply pw_below_drewN | apply below_drew1)); (case side2 => repeat (first | exact HR.out | (with_reducible refine Kd.R_drewN ?_ _) | (with_reducible refine Kd.R_drew ?_))); rintro e w' ⟨v', rfl, hr2, hb2⟩)
        all_goals
          have HR2 := Aside0.mk hr2
          have HB2 := Aside0.mk hb2
          clear hr2 hb2 hpl
          go_wp2
          go_roundw
          case rel => exact ⟨i + 1, by omega, by go_num, ⟨by
            have hlx : lix t i = (b - 48 + 10).toNat := by unfold lix; rw [HD0.out, HPR.out, HBD.out]; simp; try omega
            have := HR2.out
            skip
            rw [show pre13 t (i + 1) = pre13 t i ++ bars false (lg (b - 48 + 10).toNat) by unfold pre13; rw [left13_next, hlx]; simp only [List.append_assoc]]
            exact this⟩, HB2⟩
          case measure => simp [intOf]; omega
    · obtain rfl : i = 6 := by omega
      have hls : (lf.size : Int) = 6 := by have := HLS.out; omega
      go_wp2_with fail
      refine (bars66 w wr _ ⟨#[49, 49, 49, 49, 49]⟩ (pre13 t 6) false (bars false [1, 1, 1, 1, 1]) (by decide +kernel) (by decide) (by rw [pre13_length t HTA.out 6 (by omega)]; omega) HB.out HR.out).mono ?_
      rintro e w2 ⟨v2, rfl, hr2, hb2⟩
      have HR2 := Aside0.mk hr2
      have HB2 := Aside0.mk hb2
      clear hr2 hb2 hlt hi
      go_wp2_with fail
      go_loopw [5, 11] (fun rv v wr => ∃ i : Nat, i ≤ 6 ∧ v = .int .i64 (7 + (i : Int)) ∧ Aside0 (Kd.R Kd.bool 4 wr w.heap.size (fun _ => True) rv (mid13 t i)) ∧ Aside0 (Below w.heap.size w wr)) (fun _ v _ => 13 - (intOf v).toNat)
      case atStart => exact ⟨0, by omega, rfl, ⟨by have := HR2.out; simpa [mid13, digs_] using this⟩, HB2⟩
      case round =>
        clear HR HB
        obtain ⟨i, hi, rfl, HR, HB⟩ := hrel
        clear HR2 HB2
        by_cases hlt : i < 6
        · have d1 : decide (7 + (i : Int) < 13) = true := decide_eq_true (by omega)
          have hit : 7 + i < t.size := by have := HTS.out; omega
          obtain ⟨b, hbt, hb48, hb57, hbd⟩ := dgt_at t 13 HTS.out HTA.out (7 + i) (by omega) hit
          have HBD := Aside0.mk hbd
          clear hbd
          have hpl : (mid13 t i).length ≤ 900000 := by rw [mid13_length t HTA.out i (by omega)]; omega
          go_wp2_with fail
          refine (dig68 w _ _ (mid13 t i) b 67 true (Or.inr ⟨rfl, rfl⟩) (by omega) (by omega) (by assumption) HB.out HR.out).mono ?_
          rintro e w' ⟨v', rfl, hr2, hb2⟩
          have HR2 := Aside0.mk hr2
          have HB2 := Aside0.mk hb2
          clear hr2 hb2 hpl
          go_wp2
          go_roundw
          case rel => exact ⟨i + 1, by omega, by go_num, ⟨by
            rw [show mid13 t (i + 1) = mid13 t i ++ bars true (lp (b - 48)) by unfold mid13; rw [digs_next, HBD.out]; simp only [List.append_assoc]]
            exact HR2.out⟩, HB2⟩
          case measure => simp [intOf]; omega
        · obtain rfl : i = 6 := by omega
          go_wp2_with fail
          refine (bars66 w _ _ ⟨#[49, 49, 49]⟩ (mid13 t 6) true (bars true [1, 1, 1]) (by decide +kernel) (by decide) (by rw [mid13_length t HTA.out 6 (by omega)]; omega) HB.out HR.out).mono ?_
          rintro e w2 ⟨v2, rfl, hr2, hb2⟩
          have HR2 := Aside0.mk hr2
          have HB2 := Aside0.mk hb2
          clear hr2 hb2
          go_wp2
          go_ret
          exact ⟨_, rfl, HR2.out, HB2.out⟩
end Go.Proofs.YthkddnmomjcdaaaGreat.B
