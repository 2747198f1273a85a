import Derived.Test.YthkddnmomjcdaaaGreatF0
import Derived.Test.YthkddnmomjcdaaaGreatF66
import Derived.Test.YthkddnmomjcdaaaGreatF73
namespace Go.Proofs.YthkddnmomjcdaaaGreat.F
open Go.RowKit Go.Proofs.YthkddnmomjcdaaaGreatW.PrintWords Go.Proofs.YthkddnmomjcdaaaGreatW.PrintLast Go.Proofs.YthkddnmomjcdaaaGreatW.PrintMore
attribute [local go_sem] max2_int min2_int max_two min_two max_three min_three max_four min_four   -- for this text's walks alone
set_option linter.unusedVariables false
set_option linter.unusedSimpArgs false

/-! ### spec_odDigit: function 68 -/
def spec_odDigit.f (k : Nat) (l0 : List Bool) (a1 : Int) (a2 : Int) : Option (List Bool) := (spec_odWidths.f a1).bind fun t295 => (if a2 = 66 then (if 3 < (t295.size : Int) then (if 2 < (t295.size : Int) then (if 1 < (t295.size : Int) then (if 0 < (t295.size : Int) then ((spec_odBars.f k l0 (strOfNums (([bt t295 3, bt t295 2, bt t295 1, bt t295 0] : List Int))) false).bind fun t299 => (some t299)) else (none)) else (none)) else (none)) else (none)) else (if a2 = 67 then ((spec_odBars.f k l0 t295 true).bind fun t302 => (some t302)) else ((spec_odBars.f k l0 t295 false).bind fun t305 => (some t305))))
theorem spec_odDigit.mono : ∀ a0 a1 a2 k, LeO (spec_odDigit.f k a0 a1 a2) (spec_odDigit.f (k + 1) a0 a1 a2) := by
  intro a0 a1 a2 k
  unfold spec_odDigit.f
  repeat' first
      | (with_reducible exact spec_odBars.mono _ _ _ _)
      | (with_reducible exact LeO.refl _)
      | (with_reducible exact LeO.none _)
      | (with_reducible refine LeO.ite ?_ ?_)
      | (with_reducible refine LeO.bind ?_ (fun _ => ?_))
      | exact spec_odBars.mono _ _ _ _
      | exact LeO.none _
      | refine LeO.ite ?_ ?_
      | refine LeO.bind ?_ (fun _ => ?_)
def spec_odDigit.T4 : Bool × List (List Nat × List Nat) := (true, [([], []), ([], []), ([1], [1]), ([], []), ([3], [3]), ([], []), ([5], [5]), ([], []), ([7], [7]), ([2, 4, 6, 8], [2, 4, 6, 8]), ([9], [9]), ([0, 10], [0, 10]), ([11, 11, 0, 1, 2, 3, 4, 5, 6, 7, 8, 9, 10, 11], [11])])
def spec_odDigit.B4 : List Nat := [0, 0, 2, 0, 8, 0, 32, 0, 128, 510, 1022, 2047, 4095]
theorem spec_odDigit.tab4 : rtab .any (opsOf Tryz.f68 4) = spec_odDigit.T4 := by kernel_rfl
theorem spec_odDigit.bits4 : waitsOk spec_odDigit.T4.2 spec_odDigit.B4 = true := by kernel_rfl
set_option maxHeartbeats 8000000 in
set_option maxRecDepth 100000 in
theorem spec_odDigit.calls (k : Nat) (P0_ : Nat → Prop) (u9000_ : Value) (l0 : List Bool) (a1 : Int) (a2 : Int) (r : List Bool) (w0 w : World) (hB : Below w0.heap.size w0 w) (ho0 : Kd.R Kd.bool 4 w w0.heap.size P0_ u9000_ l0) (h : spec_odDigit.f k l0 a1 a2 = some r) :
    Calls Tryz.prog 68 #[u9000_, .int .u8 a1, .int .u8 a2] w fun e w' => ∃ v0_ : Value, e = .returned (v0_) ∧ Kd.R Kd.bool 4 w' w0.heap.size (fun k_ => (P0_ k_ ∨ w.heap.size ≤ k_)) v0_ r ∧ Below w0.heap.size w0 w' ∧ Kept w w' (fun k_ => P0_ k_) := by
  have HO0 := Aside0.mk (show Kd.R Kd.bool 4 w w0.heap.size (fun k_ => (P0_ k_ ∨ w.heap.size ≤ k_)) u9000_ l0 from Kd.R_mono ho0 (fun k_ hk => (.inl hk)))
  have HK := Aside0.mk (Kept.refl w (fun k_ => P0_ k_))
  have HW0 := Aside0.mk hB.size
  have HB := Aside0.mk hB
  clear hB
  have H : ((spec_odWidths.f a1).bind fun t295 => (if a2 = 66 then (if 3 < (t295.size : Int) then (if 2 < (t295.size : Int) then (if 1 < (t295.size : Int) then (if 0 < (t295.size : Int) then ((spec_odBars.f k l0 (strOfNums (([bt t295 3, bt t295 2, bt t295 1, bt t295 0] : List Int))) false).bind fun t299 => (some t299)) else (none)) else (none)) else (none)) else (none)) else (if a2 = 67 then ((spec_odBars.f k l0 t295 true).bind fun t302 => (some t302)) else ((spec_odBars.f k l0 t295 false).bind fun t305 => (some t305))))) = some r := h
  clear h
  replace H := Option.bind_eq_some_iff.mp H
  obtain ⟨t295, A40, H⟩ := H
  replace H : (if a2 = 66 then (if 3 < (t295.size : Int) then (if 2 < (t295.size : Int) then (if 1 < (t295.size : Int) then (if 0 < (t295.size : Int) then ((spec_odBars.f k l0 (strOfNums (([bt t295 3, bt t295 2, bt t295 1, bt t295 0] : List Int))) false).bind fun t299 => (some t299)) else (none)) else (none)) else (none)) else (none)) else (if a2 = 67 then ((spec_odBars.f k l0 t295 true).bind fun t302 => (some t302)) else ((spec_odBars.f k l0 t295 false).bind fun t305 => (some t305)))) = some r := H
  have A4 := Aside0.mk A40
  clear A40
  by_cases c5 : a2 = 66
  · rw [if_pos c5] at H
    have c5b0 : (a2 == 66) = true := beq_iff_eq.mpr c5
    have c5b1 : (a2 != 66) = false := bne_eq_false_iff_eq.mpr c5
    clear c5
    by_cases c6 : 3 < (t295.size : Int)
    · rw [if_pos c6] at H
      have c6b0 : decide (3 < (t295.size : Int)) = true := decide_eq_true c6
      have c6b1 : decide (3 < t295.size) = true := decide_eq_true (by omega)
      clear c6
      by_cases c8 : 2 < (t295.size : Int)
      · rw [if_pos c8] at H
        have c8b0 : decide (2 < (t295.size : Int)) = true := decide_eq_true c8
        have c8b1 : decide (2 < t295.size) = true := decide_eq_true (by omega)
        clear c8
        by_cases c10 : 1 < (t295.size : Int)
        · rw [if_pos c10] at H
          have c10b0 : decide (1 < (t295.size : Int)) = true := decide_eq_true c10
          have c10b1 : decide (1 < t295.size) = true := decide_eq_true (by omega)
          clear c10
          by_cases c12 : 0 < (t295.size : Int)
          · rw [if_pos c12] at H
            have c12b0 : decide (0 < (t295.size : Int)) = true := decide_eq_true c12
            have c12b1 : decide (0 < t295.size) = true := decide_eq_true (by omega)
            clear c12
            obtain ⟨y296, hy296⟩ : ∃ y_ : List Int, y_ = (([bt t295 3, bt t295 2, bt t295 1, bt t295 0] : List Int)) := ⟨_, rfl⟩
            replace H : ((spec_odBars.f k l0 (strOfNums y296) false).bind fun t299 => (some t299)) = some r := by first | (rw [hy296]; with_reducible exact H) | (have H2_ := (Option.bind_some _ _).symm.trans H; rw [hy296]; with_reducible exact H2_) | (have H2_ := (Option.bind_some _ _).symm.trans H; with_reducible exact H2_) | with_reducible exact H | (rw [hy296]; exact H) | exact H
            have Ny296 := Aside0.mk hy296
            clear hy296
            replace H := Option.bind_eq_some_iff.mp H
            obtain ⟨t299, A140, H⟩ := H
            replace H : (some t299) = some r := H
            have A14 := Aside0.mk A140
            clear A140
            obtain rfl := Option.some.inj H
            go_enter Tryz.func68, Tryz.ntmps68
            try go_wp2_with (first | ((with_reducible refine gate_callee (f := 73) rfl ?_); refine goesL_ (some 9) rfl rfl Tryz.func73 (by kernel_rfl) rfl #[.int .u8 a1] rfl (by (try simp only [List.map_toArray, List.map_cons, List.map_nil]); first | done | rfl | (simp only [List.length_drop, List.length_take]; rfl)) ?_; (with_reducible refine (spec_odWidths.calls a1 t295 _ A4.out).mono ?_); rintro e w15 ⟨rfl, hb⟩; refine ⟨_, rfl, ?_⟩; have n0_ := Aside0.mk (Kd.R_below (by (with_reducible repeat (first | apply Kd.R_alloc | apply Kd.R_drewN | apply Kd.R_drew)); exact HO0.out) hb); have n1_ := Aside0.mk (Kept.below (S := (fun k_ => P0_ k_)) (by repeat (first | (with_reducible first | exact HK.out | apply Kept.alloc | apply Kept.drewN | apply Kept.drew) | exact HK.out)) hb); have n2_ := Aside0.mk (below_step (by repeat (first | (with_reducible first | exact HB.out | apply below_alloc | apply pw_below_drewN | apply below_drew1) | exact HB.out)) hb); clear HO0; clear HK; clear HB; have HO0 := n0_; have HK := n1_; have HB := n2_; clear n0_ n1_ n2_; (try clear hb); (try clear hb2); (try clear hk); (try clear hi)))
            have n0_ := Aside0.mk (Kd.R_drew HO0.out)
            have n1_ := Aside0.mk (Kept.drew HK.out)
            have n2_ := Aside0.mk (below_drew1 HB.out)
            clear HO0
            clear HK
            clear HB
            have HO0 := n0_
            have HK := n1_
            have HB := n2_
            clear n0_ n1_ n2_
            have p7 : 0 ≤ (3 : Int) := (by omega)
            have q7 : 3 < t295.size := (by have : (3 : Int) < (t295.size : Int) := of_decide_eq_true (by first | (with_reducible assumption) | assumption); omega)
            have hx7 : ∀ h : 3 < t295.size, ((t295[3]'h).toNat : Int) = bt t295 3 := bt_at t295 3
            clear p7
            have qi7 : (3 < (t295.size : Int)) = True := eq_true (of_decide_eq_true (by first | (with_reducible assumption) | assumption))
            replace q7 := eq_true q7
            have p9 : 0 ≤ (2 : Int) := (by omega)
            have q9 : 2 < t295.size := (by have : (2 : Int) < (t295.size : Int) := of_decide_eq_true (by first | (with_reducible assumption) | assumption); omega)
            have hx9 : ∀ h : 2 < t295.size, ((t295[2]'h).toNat : Int) = bt t295 2 := bt_at t295 2
            clear p9
            have qi9 : (2 < (t295.size : Int)) = True := eq_true (of_decide_eq_true (by first | (with_reducible assumption) | assumption))
            replace q9 := eq_true q9
            have p11 : 0 ≤ (1 : Int) := (by omega)
            have q11 : 1 < t295.size := (by have : (1 : Int) < (t295.size : Int) := of_decide_eq_true (by first | (with_reducible assumption) | assumption); omega)
            have hx11 : ∀ h : 1 < t295.size, ((t295[1]'h).toNat : Int) = bt t295 1 := bt_at t295 1
            clear p11
            have qi11 : (1 < (t295.size : Int)) = True := eq_true (of_decide_eq_true (by first | (with_reducible assumption) | assumption))
            replace q11 := eq_true q11
            have p13 : 0 ≤ (0 : Int) := (by omega)
            have q13 : 0 < t295.size := (by have : (0 : Int) < (t295.size : Int) := of_decide_eq_true (by first | (with_reducible assumption) | assumption); omega)
            have hx13 : ∀ h : 0 < t295.size, ((t295[0]'h).toNat : Int) = bt t295 0 := bt_at t295 0
            clear p13
            have qi13 : (0 < (t295.size : Int)) = True := eq_true (of_decide_eq_true (by first | (with_reducible assumption) | assumption))
            replace q13 := eq_true q13
            refine start_ (n := 13) (S := fun w' => True) (ds := []) #[false, false, false, false, false, false, false, false, false, false, false, false, false] (by kernel_rfl) rfl rfl trivial (fun hHeld => ?_); refine with_tabW spec_odDigit.tab4 spec_odDigit.bits4 (fun HT_ HW_ => ?_)
            generalize w15.drew = w16 at HO0 HK HB hHeld ⊢
            refine pure_ (i := 0) (N := some 13) (v := ?_) (a' := ?_) #[true, false, false, false, false, false, false, false, false, false, false, false, false] rfl rfl (any_of HT_.out (by kernel_rfl)) (fun _ _ _ h => h) (Or.inl ⟨by rfl, ?_⟩) ?_ ?_
            rotate_left
            · intro w'
              go_simp
              with_reducible rfl
            rotate_left
            · simp only [Act.put, List.setIfInBounds_toArray, List.set_cons_zero, List.set_cons_succ, i64_w, i32_w]
              rfl
            refine pure_ (i := 1) (N := some 14) (v := ?_) (a' := ?_) #[true, true, false, false, false, false, false, false, false, false, false, false, false] rfl rfl (any_of HT_.out (by kernel_rfl)) (fun _ _ _ h => h) (Or.inl ⟨by rfl, ?_⟩) ?_ ?_
            rotate_left
            · intro w'
              go_simp
              with_reducible rfl
            rotate_left
            · simp only [Act.put, List.setIfInBounds_toArray, List.set_cons_zero, List.set_cons_succ, i64_w, i32_w]
              rfl
            refine pure_ (i := 3) (N := some 16) (v := ?_) (a' := ?_) #[true, true, false, true, false, false, false, false, false, false, false, false, false] rfl rfl (any_of HT_.out (by kernel_rfl)) (fun _ _ _ h => h) (Or.inl ⟨by rfl, ?_⟩) ?_ ?_
            rotate_left
            · intro w'
              go_simp
              with_reducible rfl
            rotate_left
            · simp only [Act.put, List.setIfInBounds_toArray, List.set_cons_zero, List.set_cons_succ, i64_w, i32_w]
              rfl
            refine pure_ (i := 5) (N := some 18) (v := ?_) (a' := ?_) #[true, true, false, true, false, true, false, false, false, false, false, false, false] rfl rfl (any_of HT_.out (by kernel_rfl)) (fun _ _ _ h => h) (Or.inl ⟨by rfl, ?_⟩) ?_ ?_
            rotate_left
            · intro w'
              go_simp
              with_reducible rfl
            rotate_left
            · simp only [Act.put, List.setIfInBounds_toArray, List.set_cons_zero, List.set_cons_succ, i64_w, i32_w]
              rfl
            refine pure_ (i := 7) (N := some 20) (v := ?_) (a' := ?_) #[true, true, false, true, false, true, false, true, false, false, false, false, false] rfl rfl (any_of HT_.out (by kernel_rfl)) (fun _ _ _ h => h) (Or.inl ⟨by rfl, ?_⟩) ?_ ?_
            rotate_left
            · intro w'
              go_simp
              with_reducible rfl
            rotate_left
            · simp only [Act.put, List.setIfInBounds_toArray, List.set_cons_zero, List.set_cons_succ, i64_w, i32_w]
              rfl
            refine take_ (i := 2) (N := some 15) (v := ?_) (a' := ?_) #[true, true, true, true, false, true, false, true, false, false, false, false, false] rfl rfl (take_ofW HT_.out HW_.out (by kernel_rfl)) (fun _ _ _ h => h) (Or.inl ⟨by rfl, ?_⟩) hHeld ?_ ?_
            rotate_left
            · intro w' _
              go_simp
              with_reducible rfl
            rotate_left
            · simp only [Act.put, List.setIfInBounds_toArray, List.set_cons_zero, List.set_cons_succ, i64_w, i32_w]
              rfl
            refine take_ (i := 4) (N := some 17) (v := ?_) (a' := ?_) #[true, true, true, true, true, true, false, true, false, false, false, false, false] rfl rfl (take_ofW HT_.out HW_.out (by kernel_rfl)) (fun _ _ _ h => h) (Or.inl ⟨by rfl, ?_⟩) hHeld ?_ ?_
            rotate_left
            · intro w' _
              go_simp
              with_reducible rfl
            rotate_left
            · simp only [Act.put, List.setIfInBounds_toArray, List.set_cons_zero, List.set_cons_succ, i64_w, i32_w]
              rfl
            refine take_ (i := 6) (N := some 19) (v := ?_) (a' := ?_) #[true, true, true, true, true, true, true, true, false, false, false, false, false] rfl rfl (take_ofW HT_.out HW_.out (by kernel_rfl)) (fun _ _ _ h => h) (Or.inl ⟨by rfl, ?_⟩) hHeld ?_ ?_
            rotate_left
            · intro w' _
              go_simp
              with_reducible rfl
            rotate_left
            · simp only [Act.put, List.setIfInBounds_toArray, List.set_cons_zero, List.set_cons_succ, i64_w, i32_w]
              rfl
            refine take_ (i := 8) (N := some 21) (v := ?_) (a' := ?_) #[true, true, true, true, true, true, true, true, true, false, false, false, false] rfl rfl (take_ofW HT_.out HW_.out (by kernel_rfl)) (fun _ _ _ h => h) (Or.inl ⟨by rfl, ?_⟩) hHeld ?_ ?_
            rotate_left
            · intro w' _
              go_simp
              with_reducible rfl
            rotate_left
            · simp only [Act.put, List.setIfInBounds_toArray, List.set_cons_zero, List.set_cons_succ, i64_w, i32_w]
              rfl
            refine one_ (i := 9) (N := some 22) #[true, true, true, true, true, true, true, true, true, true, false, false, false] rfl rfl (one_of HT_.out (by kernel_rfl)) (by decide) (fun K hK => ?_)
            refine Kd.R_lit_step (Kd.int .u8) _ 5 ?hg (N := 22) ?hd (xs := ([bt t295 3, bt t295 2, bt t295 1, bt t295 0] : List Int)) (inner := [.int .u8 (bt t295 3), .int .u8 (bt t295 2), .int .u8 (bt t295 1), .int .u8 (bt t295 0)]) (ok := fun _ => True) (okp := fun _ => True) ?hr ?hp (fun _ hk => hk) trivial (Below.refl _ _) (Nat.le_refl _) (by simp) ?_; (case hd => rfl); (case hg => rfl); (case hr => first | (go_simp; done) | (go_simp; rfl)); (case hp => exact (Reps.one (show Kd.M (Kd.int .u8) _ _ _ (bt t295 3) [.int .u8 (bt t295 3)] from rfl) (Reps.one (show Kd.M (Kd.int .u8) _ _ _ (bt t295 2) [.int .u8 (bt t295 2)] from rfl) (Reps.one (show Kd.M (Kd.int .u8) _ _ _ (bt t295 1) [.int .u8 (bt t295 1)] from rfl) (Reps.one (show Kd.M (Kd.int .u8) _ _ _ (bt t295 0) [.int .u8 (bt t295 0)] from rfl) (Reps.none _ _))))))
            intro v297 w17 ho18 hb hg_ hnew_
            clear hg_ hnew_
            (first | rw [← Ny296.out] at ho18 | (simp only [Int.reduceToNat] at ho18; rw [← Ny296.out] at ho18))
            have n0_ := Aside0.mk (Kd.R_below (by (with_reducible repeat (first | apply Kd.R_alloc | apply Kd.R_drewN | apply Kd.R_drew)); exact HO0.out) hb)
            have n1_ := Aside0.mk (Kd.R_lower (Kd.R_newM (M := fun k_ => (P0_ k_ ∨ w.heap.size ≤ k_)) ho18 (by first | exact HK.out.1 | exact (show Kept w _ (fun k_ => P0_ k_) from by repeat (first | (with_reducible first | exact HK.out | apply Kept.alloc | apply Kept.drewN | apply Kept.drew) | exact HK.out)).1) (fun k_ h_ => .inr h_)) (below_size (by repeat (first | (with_reducible first | exact HB.out | apply below_alloc | apply pw_below_drewN | apply below_drew1) | exact HB.out))))
            have n2_ := Aside0.mk (Kept.below (S := (fun k_ => P0_ k_)) (by repeat (first | (with_reducible first | exact HK.out | apply Kept.alloc | apply Kept.drewN | apply Kept.drew) | exact HK.out)) hb)
            have n3_ := Aside0.mk (below_step (by repeat (first | (with_reducible first | exact HB.out | apply below_alloc | apply pw_below_drewN | apply below_drew1) | exact HB.out)) hb)
            clear HO0
            clear HK
            clear HB
            have HO0 := n0_
            have HO298 := n1_
            have HK := n2_
            have HB := n3_
            clear n0_ n1_ n2_ n3_
            clear hb ho18
            obtain ⟨Ao20, co20, eo20⟩ := Kd.R_slice HO0.out
            (first | subst eo20 | (injection eo20 with f1_ f2_ f3_; have f4_ := f1_.symm; have f5_ := f3_.symm; clear f1_ f2_ f3_; subst f4_; subst f5_))
            refine hK.out _ _ trivial (fun hHeld => ?_)
            clear hK K
            refine norm_ (a' := ?_) ?_ ?_
            rotate_left
            · show Act.put _ (some 22) _ = _
              simp only [Act.put, List.setIfInBounds_toArray, List.set_cons_zero, List.set_cons_succ, i64_w, i32_w]
              rfl
            refine one_ (i := 10) (N := some 23) #[true, true, true, true, true, true, true, true, true, true, true, false, false] rfl rfl (one_of HT_.out (by kernel_rfl)) (by decide) (fun K hK => ?_)
            have hcv19 := own_string (P := Tryz.prog) Tryz.underlying22 Tryz.underlying5 Tryz.underlying9 (Kd.own_of_R HO298.out)
            refine value_ (w1 := ?_) (v := ?_) (by rfl) rfl ?_ ?_
            rotate_left 2
            · go_simp
              constructor
              · rfl
              · rfl
            clear hcv19
            refine hK.out _ _ trivial (fun hHeld => ?_)
            clear hK K
            refine norm_ (a' := ?_) ?_ ?_
            rotate_left
            · show Act.put _ (some 23) _ = _
              simp only [Act.put, List.setIfInBounds_toArray, List.set_cons_zero, List.set_cons_succ, i64_w, i32_w]
              rfl
            refine one_ (i := 11) (N := some 24) #[true, true, true, true, true, true, true, true, true, true, true, true, false] rfl rfl (one_of HT_.out (by kernel_rfl)) (by decide) (fun K hK => ?_)
            refine goes_ Tryz.func66 (by kernel_rfl) rfl #[.slice Ao20 l0.length co20, .string (strOfNums y296), .bool false] (by rfl) rfl rfl (by (try simp only [List.map_toArray, List.map_cons, List.map_nil]); first | done | rfl | (simp only [List.length_drop, List.length_take]; rfl)) ?_
            with_reducible refine (spec_odBars.calls k (fun k_ => some k_ = (.slice Ao20 l0.length co20 : Value).ownBlock) (.slice Ao20 l0.length co20) l0 (strOfNums y296) false t299 w0 _ ?side1 ?side2 A14.out).mono ?_
            (case side1 => repeat (first | (with_reducible first | exact HB.out | apply below_alloc | apply pw_below_drewN | apply below_drew1) | exact HB.out))
            (case side2 => exact Kd.R_tight rfl HO0.out)
            rintro e w21 ⟨v300, rfl, ho0, hb, hkp⟩
            refine ⟨_, rfl, ?_⟩
            have n0_ := Aside0.mk (Kd.R_mono (ok' := fun k_ => (P0_ k_ ∨ w.heap.size ≤ k_)) (Kd.R_keptB ((Kd.R_apart' HO298.out (Kd.R_typed HO0.out) (by decide))) hkp (fun k_ hk_ hs_ => (hk_.2) hs_)) (fun k_ hk_ => hk_.1.1.1))
            have n1_ := Aside0.mk (Kd.R_mono (ok' := fun k_ => (P0_ k_ ∨ w.heap.size ≤ k_)) ho0 (fun k_ hk_ => Or.elim hk_ (fun hs_ => (HO0.out.1 k_ (hs_).symm)) (fun hn_ => (.inr (Nat.le_trans (by first | exact HK.out.1 | exact (show Kept w _ (fun k_ => P0_ k_) from by repeat (first | (with_reducible first | exact HK.out | apply Kept.alloc | apply Kept.drewN | apply Kept.drew) | exact HK.out)).1) hn_)))))
            have n2_ := Aside0.mk (Kept.then_ (S := (fun k_ => P0_ k_)) (by repeat (first | (with_reducible first | exact HK.out | apply Kept.alloc | apply Kept.drewN | apply Kept.drew) | exact HK.out)) hkp (fun k_ hs_ => (fun e_ => (HO0.out.1 k_ e_.symm)) hs_))
            have n3_ := Aside0.mk (hb)
            clear HO298
            clear HK
            clear HB
            clear HO0
            have HO298 := n0_
            have HO301 := n1_
            have HK := n2_
            have HB := n3_
            clear n0_ n1_ n2_ n3_
            (try clear hb)
            (try clear hkp)
            (try clear ho0)
            refine hK.out _ _ trivial (fun hHeld => ?_)
            clear hK K
            refine norm_ (a' := ?_) ?_ ?_
            rotate_left
            · show Act.put _ (some 24) _ = _
              simp only [Act.put, List.setIfInBounds_toArray, List.set_cons_zero, List.set_cons_succ, i64_w, i32_w]
              rfl
            refine pure_ (i := 12) (N := some 6) (v := ?_) (a' := ?_) #[true, true, true, true, true, true, true, true, true, true, true, true, true] rfl rfl (any_of HT_.out (by kernel_rfl)) (fun _ _ _ h => h) (Or.inl ⟨by rfl, ?_⟩) ?_ ?_
            rotate_left
            · intro w'
              go_simp
              with_reducible rfl
            rotate_left
            · simp only [Act.put, List.setIfInBounds_toArray, List.set_cons_zero, List.set_cons_succ, i64_w, i32_w]
              rfl
            refine done_ (done_of HT_.out (by kernel_rfl)) ?_
            try go_wp2
            go_ret
            exact ⟨_, by first | rfl | (simp [errW_none, errW_some] <;> rfl) | (simp [*, errW_none, errW_some] <;> rfl), by (with_reducible repeat (first | apply Kd.R_alloc | apply Kd.R_drewN | apply Kd.R_drew)); exact HO301.out, by repeat (first | (with_reducible first | exact HB.out | apply below_alloc | apply pw_below_drewN | apply below_drew1) | exact HB.out), by repeat (first | (with_reducible first | exact HK.out | apply Kept.alloc | apply Kept.drewN | apply Kept.drew) | exact HK.out)⟩
          · rw [if_neg c12] at H
            exact absurd H (by simp)
        · rw [if_neg c10] at H
          exact absurd H (by simp)
      · rw [if_neg c8] at H
        exact absurd H (by simp)
    · rw [if_neg c6] at H
      exact absurd H (by simp)
  · rw [if_neg c5] at H
    have c5b0 : (a2 == 66) = false := beq_eq_false_iff_ne.mpr c5
    have c5b1 : (a2 != 66) = true := bne_iff_ne.mpr c5
    by_cases c22 : a2 = 67
    · rw [if_pos c22] at H
      have c22b0 : (a2 == 67) = true := beq_iff_eq.mpr c22
      have c22b1 : (a2 != 67) = false := bne_eq_false_iff_eq.mpr c22
      clear c22
      replace H := Option.bind_eq_some_iff.mp H
      obtain ⟨t302, A230, H⟩ := H
      replace H : (some t302) = some r := H
      have A23 := Aside0.mk A230
      clear A230
      obtain rfl := Option.some.inj H
      go_enter Tryz.func68, Tryz.ntmps68
      go_wp2_with (first | ((with_reducible refine gate_callee (f := 73) rfl ?_); refine goesL_ (some 9) rfl rfl Tryz.func73 (by kernel_rfl) rfl #[.int .u8 a1] rfl (by (try simp only [List.map_toArray, List.map_cons, List.map_nil]); first | done | rfl | (simp only [List.length_drop, List.length_take]; rfl)) ?_; (with_reducible refine (spec_odWidths.calls a1 t295 _ A4.out).mono ?_); rintro e w24 ⟨rfl, hb⟩; refine ⟨_, rfl, ?_⟩; have n0_ := Aside0.mk (Kd.R_below (by (with_reducible repeat (first | apply Kd.R_alloc | apply Kd.R_drewN | apply Kd.R_drew)); exact HO0.out) hb); have n1_ := Aside0.mk (Kept.below (S := (fun k_ => P0_ k_)) (by repeat (first | (with_reducible first | exact HK.out | apply Kept.alloc | apply Kept.drewN | apply Kept.drew) | exact HK.out)) hb); have n2_ := Aside0.mk (below_step (by repeat (first | (with_reducible first | exact HB.out | apply below_alloc | apply pw_below_drewN | apply below_drew1) | exact HB.out)) hb); clear HO0; clear HK; clear HB; have HO0 := n0_; have HK := n1_; have HB := n2_; clear n0_ n1_ n2_; (try clear hb); (try clear hb2); (try clear hk); (try clear hi); obtain ⟨Ao25, co25, eo25⟩ := Kd.R_slice HO0.out; subst eo25) | ((with_reducible refine gate_callee (f := 66) rfl ?_); refine goesL_ (some 29) rfl rfl Tryz.func66 (by kernel_rfl) rfl #[.slice Ao25 l0.length co25, .string t295, .bool true] rfl (by (try simp only [List.map_toArray, List.map_cons, List.map_nil]); first | done | rfl | (simp only [List.length_drop, List.length_take]; rfl)) ?_; (with_reducible refine (spec_odBars.calls k (fun k_ => some k_ = (.slice Ao25 l0.length co25 : Value).ownBlock) (.slice Ao25 l0.length co25) l0 t295 true t302 w0 _ ?side1 ?side2 A23.out).mono ?_); (case side1 => repeat (first | (with_reducible first | exact HB.out | apply below_alloc | apply pw_below_drewN | apply below_drew1) | exact HB.out)); (case side2 => exact Kd.R_tight rfl HO0.out); rintro e w26 ⟨v303, rfl, ho0, hb, hkp⟩; refine ⟨_, rfl, ?_⟩; have n0_ := Aside0.mk (Kd.R_mono (ok' := fun k_ => (P0_ k_ ∨ w.heap.size ≤ k_)) ho0 (fun k_ hk_ => Or.elim hk_ (fun hs_ => (HO0.out.1 k_ (hs_).symm)) (fun hn_ => (.inr (Nat.le_trans (by first | exact HK.out.1 | exact (show Kept w _ (fun k_ => P0_ k_) from by repeat (first | (with_reducible first | exact HK.out | apply Kept.alloc | apply Kept.drewN | apply Kept.drew) | exact HK.out)).1) hn_))))); have n1_ := Aside0.mk (Kept.then_ (S := (fun k_ => P0_ k_)) (by repeat (first | (with_reducible first | exact HK.out | apply Kept.alloc | apply Kept.drewN | apply Kept.drew) | exact HK.out)) hkp (fun k_ hs_ => (fun e_ => (HO0.out.1 k_ e_.symm)) hs_)); have n2_ := Aside0.mk (hb); clear HK; clear HB; clear HO0; have HO304 := n0_; have HK := n1_; have HB := n2_; clear n0_ n1_ n2_; (try clear hb); (try clear hkp); (try clear ho0)))
      go_ret
      exact ⟨_, by first | rfl | (simp [errW_none, errW_some] <;> rfl) | (simp [*, errW_none, errW_some] <;> rfl), by (with_reducible repeat (first | apply Kd.R_alloc | apply Kd.R_drewN | apply Kd.R_drew)); exact HO304.out, by repeat (first | (with_reducible first | exact HB.out | apply below_alloc | apply pw_below_drewN | apply below_drew1) | exact HB.out), by repeat (first | (with_reducible first | exact HK.out | apply Kept.alloc | apply Kept.drewN | apply Kept.drew) | exact HK.out)⟩
    · rw [if_neg c22] at H
      have c22b0 : (a2 == 67) = false := beq_eq_false_iff_ne.mpr c22
      have c22b1 : (a2 != 67) = true := bne_iff_ne.mpr c22
      replace H := Option.bind_eq_some_iff.mp H
      obtain ⟨t305, A270, H⟩ := H
      replace H : (some t305) = some r := H
      have A27 := Aside0.mk A270
      clear A270
      obtain rfl := Option.some.inj H
      go_enter Tryz.func68, Tryz.ntmps68
      go_wp2_with (first | ((with_reducible refine gate_callee (f := 73) rfl ?_); refine goesL_ (some 9) rfl rfl Tryz.func73 (by kernel_rfl) rfl #[.int .u8 a1] rfl (by (try simp only [List.map_toArray, List.map_cons, List.map_nil]); first | done | rfl | (simp only [List.length_drop, List.length_take]; rfl)) ?_; (with_reducible refine (spec_odWidths.calls a1 t295 _ A4.out).mono ?_); rintro e w28 ⟨rfl, hb⟩; refine ⟨_, rfl, ?_⟩; have n0_ := Aside0.mk (Kd.R_below (by (with_reducible repeat (first | apply Kd.R_alloc | apply Kd.R_drewN | apply Kd.R_drew)); exact HO0.out) hb); have n1_ := Aside0.mk (Kept.below (S := (fun k_ => P0_ k_)) (by repeat (first | (with_reducible first | exact HK.out | apply Kept.alloc | apply Kept.drewN | apply Kept.drew) | exact HK.out)) hb); have n2_ := Aside0.mk (below_step (by repeat (first | (with_reducible first | exact HB.out | apply below_alloc | apply pw_below_drewN | apply below_drew1) | exact HB.out)) hb); clear HO0; clear HK; clear HB; have HO0 := n0_; have HK := n1_; have HB := n2_; clear n0_ n1_ n2_; (try clear hb); (try clear hb2); (try clear hk); (try clear hi); obtain ⟨Ao29, co29, eo29⟩ := Kd.R_slice HO0.out; subst eo29) | ((with_reducible refine gate_callee (f := 66) rfl ?_); refine goesL_ (some 32) rfl rfl Tryz.func66 (by kernel_rfl) rfl #[.slice Ao29 l0.length co29, .string t295, .bool false] rfl (by (try simp only [List.map_toArray, List.map_cons, List.map_nil]); first | done | rfl | (simp only [List.length_drop, List.length_take]; rfl)) ?_; (with_reducible refine (spec_odBars.calls k (fun k_ => some k_ = (.slice Ao29 l0.length co29 : Value).ownBlock) (.slice Ao29 l0.length co29) l0 t295 false t305 w0 _ ?side1 ?side2 A27.out).mono ?_); (case side1 => repeat (first | (with_reducible first | exact HB.out | apply below_alloc | apply pw_below_drewN | apply below_drew1) | exact HB.out)); (case side2 => exact Kd.R_tight rfl HO0.out); rintro e w30 ⟨v306, rfl, ho0, hb, hkp⟩; refine ⟨_, rfl, ?_⟩; have n0_ := Aside0.mk (Kd.R_mono (ok' := fun k_ => (P0_ k_ ∨ w.heap.size ≤ k_)) ho0 (fun k_ hk_ => Or.elim hk_ (fun hs_ => (HO0.out.1 k_ (hs_).symm)) (fun hn_ => (.inr (Nat.le_trans (by first | exact HK.out.1 | exact (show Kept w _ (fun k_ => P0_ k_) from by repeat (first | (with_reducible first | exact HK.out | apply Kept.alloc | apply Kept.drewN | apply Kept.drew) | exact HK.out)).1) hn_))))); have n1_ := Aside0.mk (Kept.then_ (S := (fun k_ => P0_ k_)) (by repeat (first | (with_reducible first | exact HK.out | apply Kept.alloc | apply Kept.drewN | apply Kept.drew) | exact HK.out)) hkp (fun k_ hs_ => (fun e_ => (HO0.out.1 k_ e_.symm)) hs_)); have n2_ := Aside0.mk (hb); clear HK; clear HB; clear HO0; have HO307 := n0_; have HK := n1_; have HB := n2_; clear n0_ n1_ n2_; (try clear hb); (try clear hkp); (try clear ho0)))
      go_ret
      exact ⟨_, by first | rfl | (simp [errW_none, errW_some] <;> rfl) | (simp [*, errW_none, errW_some] <;> rfl), by (with_reducible repeat (first | apply Kd.R_alloc | apply Kd.R_drewN | apply Kd.R_drew)); exact HO307.out, by repeat (first | (with_reducible first | exact HB.out | apply below_alloc | apply pw_below_drewN | apply below_drew1) | exact HB.out), by repeat (first | (with_reducible first | exact HK.out | apply Kept.alloc | apply Kept.drewN | apply Kept.drew) | exact HK.out)⟩

end Go.Proofs.YthkddnmomjcdaaaGreat.F
