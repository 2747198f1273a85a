import Derived.Test.YthkddnmomjcdaaaGreatGref0
namespace Go.Proofs.YthkddnmomjcdaaaGreat.F
open Go.RowKit Go.Proofs.YthkddnmomjcdaaaGreatW.PrintWords Go.Proofs.YthkddnmomjcdaaaGreatW.PrintLast Go.Proofs.YthkddnmomjcdaaaGreatW.PrintMore
attribute [local go_sem] max2_int min2_int max_two min_two max_three min_three max_four min_four   -- for this text's walks alone
set_option linter.unusedVariables false
set_option linter.unusedSimpArgs false

/-! ### spec_ODItf: function 23 -/
mutual
def spec_ODItf.l0 : Nat → ByteArray → List Int → Int → Option (List Bool)
  | 0, _, _, _ => none
  | k + 1, x0, x3, x4 => if (wrap64 (x4 + 1)) < (x0.size : Int) then (if 0 ≤ x4 then (if x4 < (x0.size : Int) then ((spec_odItfWide.f (((bt x0 x4) - 48) % 256)).bind fun t249 => ((spec_odElements.f k t249 5 3).bind fun t250 => (if 0 ≤ (wrap64 (x4 + 1)) then ((spec_odItfWide.f (((bt x0 (wrap64 (x4 + 1))) - 48) % 256)).bind fun t253 => ((spec_odElements.f k t253 5 3).bind fun t254 => (spec_ODItf.l1 k x0 x3 x4 t250 t254 0))) else (none)))) else (none)) else (none)) else ((some (([3, 1, 1] : List Int) : List Int)).bind fun y240 => (if x3.length + y240.length < 17592186044416 then ((spec_ODBars.f k (x3 ++ y240)).bind fun t246 => (some t246)) else (none)))
def spec_ODItf.l1 : Nat → ByteArray → List Int → Int → List Int → List Int → Int → Option (List Bool)
  | 0, _, _, _, _, _, _ => none
  | k + 1, x0, x3, x4, x5, x6, x7 => if x7 < 5 then (if 0 ≤ x7 then (if x7 < (x5.length : Int) then (if x7 < (x6.length : Int) then ((some (([rd x5 x7, rd x6 x7] : List Int) : List Int)).bind fun y259 => (if x3.length + y259.length < 17592186044416 then (spec_ODItf.l1 k x0 (x3 ++ y259) x4 x5 x6 (wrap64 (x7 + 1))) else (none))) else (none)) else (none)) else (none)) else (spec_ODItf.l0 k x0 x3 (wrap64 (x4 + 2)))
end
def spec_ODItf.f (k : Nat) (a0 : ByteArray) : Option (List Bool) := spec_ODItf.l0 k a0 (([1, 1, 1, 1] : List Int)) 0
theorem spec_ODItf.mono_l : ∀ k, (∀ y0 y1 y2, LeO (spec_ODItf.l0 k y0 y1 y2) (spec_ODItf.l0 (k + 1) y0 y1 y2)) ∧ (∀ y0 y1 y2 y3 y4 y5, LeO (spec_ODItf.l1 k y0 y1 y2 y3 y4 y5) (spec_ODItf.l1 (k + 1) y0 y1 y2 y3 y4 y5))
  | 0 => ⟨fun _ _ _ r h => by simp [spec_ODItf.l0] at h, fun _ _ _ _ _ _ r h => by simp [spec_ODItf.l1] at h⟩
  | k + 1 => by
    obtain ⟨ih0, ih1⟩ := spec_ODItf.mono_l k
    refine ⟨?_, ?_⟩
    · intro y0 y1 y2
      unfold spec_ODItf.l0
      repeat' first
      | (with_reducible exact ih0 _ _ _)
      | (with_reducible exact ih1 _ _ _ _ _ _)
      | (with_reducible exact spec_ODBars.mono _ _)
      | (with_reducible exact spec_odElements.mono _ _ _ _)
      | (with_reducible exact LeO.refl _)
      | (with_reducible exact LeO.none _)
      | (with_reducible refine LeO.ite ?_ ?_)
      | (with_reducible refine LeO.bind ?_ (fun _ => ?_))
      | exact ih0 _ _ _
      | exact ih1 _ _ _ _ _ _
      | exact spec_ODBars.mono _ _
      | exact spec_odElements.mono _ _ _ _
      | exact LeO.none _
      | refine LeO.ite ?_ ?_
      | refine LeO.bind ?_ (fun _ => ?_)
    · intro y0 y1 y2 y3 y4 y5
      unfold spec_ODItf.l1
      repeat' first
      | (with_reducible exact ih0 _ _ _)
      | (with_reducible exact ih1 _ _ _ _ _ _)
      | (with_reducible exact spec_ODBars.mono _ _)
      | (with_reducible exact spec_odElements.mono _ _ _ _)
      | (with_reducible exact LeO.refl _)
      | (with_reducible exact LeO.none _)
      | (with_reducible refine LeO.ite ?_ ?_)
      | (with_reducible refine LeO.bind ?_ (fun _ => ?_))
      | exact ih0 _ _ _
      | exact ih1 _ _ _ _ _ _
      | exact spec_ODBars.mono _ _
      | exact spec_odElements.mono _ _ _ _
      | exact LeO.none _
      | refine LeO.ite ?_ ?_
      | refine LeO.bind ?_ (fun _ => ?_)
theorem spec_ODItf.mono : ∀ a0 k, LeO (spec_ODItf.f k a0) (spec_ODItf.f (k + 1) a0) := by
  intro a0 k
  obtain ⟨ih0, ih1⟩ := spec_ODItf.mono_l k
  unfold spec_ODItf.f
  repeat' first
      | (with_reducible exact ih0 _ _ _)
      | (with_reducible exact ih1 _ _ _ _ _ _)
      | (with_reducible exact spec_ODBars.mono _ _)
      | (with_reducible exact spec_odElements.mono _ _ _ _)
      | (with_reducible exact LeO.refl _)
      | (with_reducible exact LeO.none _)
      | (with_reducible refine LeO.ite ?_ ?_)
      | (with_reducible refine LeO.bind ?_ (fun _ => ?_))
      | exact ih0 _ _ _
      | exact ih1 _ _ _ _ _ _
      | exact spec_ODBars.mono _ _
      | exact spec_odElements.mono _ _ _ _
      | exact LeO.none _
      | refine LeO.ite ?_ ?_
      | refine LeO.bind ?_ (fun _ => ?_)
def spec_ODItf.T10 : Bool × List (List Nat × List Nat) := (true, [([], []), ([], []), ([], []), ([1, 2], [1, 2]), ([3], [3]), ([], []), ([], []), ([5, 6], [5, 6]), ([7], [7]), ([4, 8], [4, 8]), ([0, 9], [0, 9]), ([10, 10, 0, 1, 2, 3, 4, 5, 6, 7, 8, 9, 10], [0, 10])])
def spec_ODItf.B10 : List Nat := [0, 0, 0, 6, 14, 0, 0, 96, 224, 510, 1023, 2047]
theorem spec_ODItf.tab10 : rtab .any (opsOf Tryz.f23 10) = spec_ODItf.T10 := by kernel_rfl
theorem spec_ODItf.bits10 : waitsOk spec_ODItf.T10.2 spec_ODItf.B10 = true := by kernel_rfl
set_option maxHeartbeats 8000000 in
set_option maxRecDepth 100000 in
theorem spec_ODItf.calls (k : Nat) (a0 : ByteArray) (r : List Bool) (w : World) (h : spec_ODItf.f k a0 = some r) :
    Calls Tryz.prog 23 #[.string a0] w fun e w' => ∃ v0_ : Value, e = .returned (v0_) ∧ Kd.R Kd.bool 4 w' w.heap.size (fun _ => True) v0_ r ∧ Below w.heap.size w w' := by
  have HB := Aside0.mk (Below.refl w.heap.size w)
  have H : (spec_ODItf.l0 k a0 (([1, 1, 1, 1] : List Int)) 0) = some r := h
  clear h
  obtain ⟨y237, hy237⟩ : ∃ y_ : List Int, y_ = (([1, 1, 1, 1] : List Int)) := ⟨_, rfl⟩
  replace H : (spec_ODItf.l0 k a0 y237 0) = some r := by first | (rw [hy237]; with_reducible exact H) | (have H2_ := (Option.bind_some _ _).symm.trans H; rw [hy237]; with_reducible exact H2_) | (have H2_ := (Option.bind_some _ _).symm.trans H; with_reducible exact H2_) | with_reducible exact H | (rw [hy237]; exact H) | exact H
  have Ny237 := Aside0.mk hy237
  clear hy237
  have H' := Aside0.mk H
  clear H
  go_enter Tryz.func23, Tryz.ntmps23
  go_wp2_with (first | ((with_reducible refine gate_dst (N := 8) rfl ?_); refine Kd.R_lit (Kd.int .i64) _ 3 ?hg (N := 8) ?hd (xs := ([1, 1, 1, 1] : List Int)) (inner := [.int .i64 1, .int .i64 1, .int .i64 1, .int .i64 1]) (ok := fun _ => True) (okp := fun _ => True) ?hr ?hp (fun _ hk => hk) trivial (Below.refl _ _) (Nat.le_refl _) (by simp) ?_; (case hd => rfl); (case hg => rfl); (case hr => first | (go_simp; done) | (go_simp; rfl)); (case hp => exact (Reps.one (show Kd.M (Kd.int .i64) _ _ _ 1 [.int .i64 1] from rfl) (Reps.one (show Kd.M (Kd.int .i64) _ _ _ 1 [.int .i64 1] from rfl) (Reps.one (show Kd.M (Kd.int .i64) _ _ _ 1 [.int .i64 1] from rfl) (Reps.one (show Kd.M (Kd.int .i64) _ _ _ 1 [.int .i64 1] from rfl) (Reps.none _ _)))))); intro v238 w2 ho3 hb hg_ hnew_; clear hg_ hnew_; (first | rw [← Ny237.out] at ho3 | (simp only [Int.reduceToNat] at ho3; rw [← Ny237.out] at ho3)); have n0_ := Aside0.mk (Kd.R_lower ho3 (below_size (by repeat (first | (with_reducible first | exact HB.out | apply below_alloc | apply pw_below_drewN | apply below_drew1) | exact HB.out)))); have n1_ := Aside0.mk (below_step (by repeat (first | (with_reducible first | exact HB.out | apply below_alloc | apply pw_below_drewN | apply below_drew1) | exact HB.out)) hb); clear HB; have HO239 := n0_; have HB := n1_; clear n0_ n1_; clear hb ho3))
  go_loopg [3, 4] k (fun kq v3 v4 w' => ∃ (x3_1 : List Int) (x4_1 : Int), v4 = .int .i64 x4_1 ∧ Aside0 (spec_ODItf.l0 kq a0 x3_1 x4_1 = some r) ∧ Aside0 (kq ≤ k) ∧ Aside0 (Kd.R (Kd.int .i64) 3 w' w.heap.size (fun _ => True) v3 x3_1) ∧ Aside0 (Below w.heap.size w w'))
  case atStart => exact ⟨(y237), (0), (by first | rfl | (simp; done) | (simp [*]; done)), H', ⟨Nat.le_refl _⟩, ⟨by (with_reducible repeat (first | apply Kd.R_alloc | apply Kd.R_drewN | apply Kd.R_drew)); exact HO239.out⟩, ⟨by repeat (first | (with_reducible first | exact HB.out | apply below_alloc | apply pw_below_drewN | apply below_drew1) | exact HB.out)⟩⟩
  case round =>
    clear H'
    try clear c2
    try clear p2
    obtain ⟨x3_1, x4_1, rfl, HA, HK1, HO_3, HB⟩ := hrel
    cases gk with
    | zero => exact absurd HA.out (by simp [spec_ODItf.l0])
    | succ k1 =>
      have H := HA.out
      clear HA
      simp only [spec_ODItf.l0] at H
      by_cases c4 : (wrap64 (x4_1 + 1)) < (a0.size : Int)
      · rw [if_pos c4] at H
        have c4b0 : decide ((wrap64 (x4_1 + 1)) < (a0.size : Int)) = true := decide_eq_true c4
        clear c4
        by_cases c5 : 0 ≤ x4_1
        · rw [if_pos c5] at H
          have c5b0 : decide (0 ≤ x4_1) = true := decide_eq_true c5
          clear c5
          by_cases c6 : x4_1 < (a0.size : Int)
          · rw [if_pos c6] at H
            have c6b0 : decide (x4_1 < (a0.size : Int)) = true := decide_eq_true c6
            clear c6
            replace H := Option.bind_eq_some_iff.mp H
            obtain ⟨t249, A80, H⟩ := H
            replace H : ((spec_odElements.f k1 t249 5 3).bind fun t250 => (if 0 ≤ (wrap64 (x4_1 + 1)) then ((spec_odItfWide.f (((bt a0 (wrap64 (x4_1 + 1))) - 48) % 256)).bind fun t253 => ((spec_odElements.f k1 t253 5 3).bind fun t254 => (spec_ODItf.l1 k1 a0 x3_1 x4_1 t250 t254 0))) else (none))) = some r := H
            have A8 := Aside0.mk A80
            clear A80
            replace H := Option.bind_eq_some_iff.mp H
            obtain ⟨t250, A90, H⟩ := H
            replace H : (if 0 ≤ (wrap64 (x4_1 + 1)) then ((spec_odItfWide.f (((bt a0 (wrap64 (x4_1 + 1))) - 48) % 256)).bind fun t253 => ((spec_odElements.f k1 t253 5 3).bind fun t254 => (spec_ODItf.l1 k1 a0 x3_1 x4_1 t250 t254 0))) else (none)) = some r := H
            have A9 := Aside0.mk A90
            clear A90
            obtain ⟨ji10, hji10⟩ : ∃ j_ : Int, (wrap64 (x4_1 + 1)) = j_ := ⟨_, rfl⟩
            replace H : (if 0 ≤ (ji10) then ((spec_odItfWide.f (((bt a0 (ji10)) - 48) % 256)).bind fun t253 => ((spec_odElements.f k1 t253 5 3).bind fun t254 => (spec_ODItf.l1 k1 a0 x3_1 x4_1 t250 t254 0))) else (none)) = some r := by first | (rw [hji10] at H; exact H) | (simp only [hji10] at H ⊢; exact H)
            (try rw [hji10] at c4b0)
            (try rw [hji10] at A8)
            (try rw [hji10] at A9)
            have hji10w : (IntKind.i64.wrap (x4_1 + 1)) = ji10 := (i64_w _).trans hji10
            by_cases c11 : 0 ≤ (ji10)
            · rw [if_pos c11] at H
              have c11b0 : decide (0 ≤ (ji10)) = true := decide_eq_true c11
              clear c11
              replace H := Option.bind_eq_some_iff.mp H
              obtain ⟨t253, A130, H⟩ := H
              replace H : ((spec_odElements.f k1 t253 5 3).bind fun t254 => (spec_ODItf.l1 k1 a0 x3_1 x4_1 t250 t254 0)) = some r := H
              have A13 := Aside0.mk A130
              clear A130
              replace H := Option.bind_eq_some_iff.mp H
              obtain ⟨t254, A140, H⟩ := H
              replace H : (spec_ODItf.l1 k1 a0 x3_1 x4_1 t250 t254 0) = some r := H
              have A14 := Aside0.mk A140
              clear A140
              have H' := Aside0.mk H
              clear H
              have p7 : 0 ≤ (x4_1 : Int) := of_decide_eq_true (by first | (with_reducible assumption) | assumption)
              have q7 : x4_1 < (a0.size : Int) := of_decide_eq_true (by first | (with_reducible assumption) | assumption)
              have hx7 := bt_at a0 x4_1
              replace p7 := eq_true p7
              replace q7 := eq_true q7
              go_wp2_with (first | ((with_reducible refine gate_callee (f := 39) rfl ?_); refine goesL_ (some 21) rfl rfl Tryz.func39 (by kernel_rfl) rfl #[.int .i64 (((bt a0 x4_1) - 48) % 256)] rfl (by (try simp only [List.map_toArray, List.map_cons, List.map_nil]); first | done | rfl | (simp only [List.length_drop, List.length_take]; rfl)) ?_; (with_reducible refine (spec_odItfWide.calls (((bt a0 x4_1) - 48) % 256) t249 _ A8.out).mono ?_); rintro e w15 ⟨rfl, hb⟩; refine ⟨_, rfl, ?_⟩; have n0_ := Aside0.mk (Kd.R_below (by (with_reducible repeat (first | apply Kd.R_alloc | apply Kd.R_drewN | apply Kd.R_drew)); exact HO_3.out) hb); have n1_ := Aside0.mk (below_step (by repeat (first | (with_reducible first | exact HB.out | apply below_alloc | apply pw_below_drewN | apply below_drew1) | exact HB.out)) hb); clear HO_3; clear HB; have HO_3 := n0_; have HB := n1_; clear n0_ n1_; (try clear hb); (try clear hb2); (try clear hk); (try clear hi)) | ((with_reducible refine gate_callee (f := 36) rfl ?_); refine goesL_ (some 22) rfl rfl Tryz.func36 (by kernel_rfl) rfl #[.int .i64 t249, .int .i64 5, .int .i64 3] rfl (by (try simp only [List.map_toArray, List.map_cons, List.map_nil]); first | done | rfl | (simp only [List.length_drop, List.length_take]; rfl)) ?_; (with_reducible refine (spec_odElements.calls k1 t249 5 3 t250 _ A9.out).mono ?_); rintro e w16 ⟨v251, rfl, ho0, hb⟩; refine ⟨_, rfl, ?_⟩; have n0_ := Aside0.mk (Kd.R_elder' (by (with_reducible repeat (first | apply Kd.R_alloc | apply Kd.R_drewN | apply Kd.R_drew)); exact HO_3.out) (Kd.R_base ho0) hb); have n1_ := Aside0.mk (Kd.R_lower (Kd.R_new' ho0 (Kd.R_lt (by (with_reducible repeat (first | apply Kd.R_alloc | apply Kd.R_drewN | apply Kd.R_drew)); exact HO_3.out))) (below_size (by repeat (first | (with_reducible first | exact HB.out | apply below_alloc | apply pw_below_drewN | apply below_drew1) | exact HB.out)))); have n2_ := Aside0.mk (below_step (by repeat (first | (with_reducible first | exact HB.out | apply below_alloc | apply pw_below_drewN | apply below_drew1) | exact HB.out)) hb); clear HO_3; clear HB; have HO_3 := n0_; have HO252 := n1_; have HB := n2_; clear n0_ n1_ n2_; (try clear hb); (try clear hb2); (try clear hk); (try clear hi); (try clear ho0); have p12 : 0 ≤ ((ji10) : Int) := of_decide_eq_true (by first | (with_reducible assumption) | assumption); have q12 : (ji10) < (a0.size : Int) := of_decide_eq_true (by first | (with_reducible assumption) | assumption); have hx12 := bt_at a0 (ji10); replace p12 := eq_true p12; replace q12 := eq_true q12) | ((with_reducible refine gate_callee (f := 39) rfl ?_); refine goesL_ (some 29) rfl rfl Tryz.func39 (by kernel_rfl) rfl #[.int .i64 (((bt a0 (ji10)) - 48) % 256)] rfl (by (try simp only [List.map_toArray, List.map_cons, List.map_nil]); first | done | (simp only [hji10]; rfl) | rfl | (simp only [List.length_drop, List.length_take]; rfl)) ?_; (with_reducible refine (spec_odItfWide.calls (((bt a0 (ji10)) - 48) % 256) t253 _ A13.out).mono ?_); rintro e w17 ⟨rfl, hb⟩; refine ⟨_, rfl, ?_⟩; have n0_ := Aside0.mk (Kd.R_below (by (with_reducible repeat (first | apply Kd.R_alloc | apply Kd.R_drewN | apply Kd.R_drew)); exact HO_3.out) hb); have n1_ := Aside0.mk (Kd.R_below (by (with_reducible repeat (first | apply Kd.R_alloc | apply Kd.R_drewN | apply Kd.R_drew)); exact HO252.out) hb); have n2_ := Aside0.mk (below_step (by repeat (first | (with_reducible first | exact HB.out | apply below_alloc | apply pw_below_drewN | apply below_drew1) | exact HB.out)) hb); clear HO_3; clear HO252; clear HB; have HO_3 := n0_; have HO252 := n1_; have HB := n2_; clear n0_ n1_ n2_; (try clear hb); (try clear hb2); (try clear hk); (try clear hi)) | ((with_reducible refine gate_callee (f := 36) rfl ?_); refine goesL_ (some 30) rfl rfl Tryz.func36 (by kernel_rfl) rfl #[.int .i64 t253, .int .i64 5, .int .i64 3] rfl (by (try simp only [List.map_toArray, List.map_cons, List.map_nil]); first | done | rfl | (simp only [List.length_drop, List.length_take]; rfl)) ?_; (with_reducible refine (spec_odElements.calls k1 t253 5 3 t254 _ A14.out).mono ?_); rintro e w18 ⟨v255, rfl, ho0, hb⟩; refine ⟨_, rfl, ?_⟩; have n0_ := Aside0.mk (Kd.R_elder' (by (with_reducible repeat (first | apply Kd.R_alloc | apply Kd.R_drewN | apply Kd.R_drew)); exact HO_3.out) (Kd.R_base ho0) hb); have n1_ := Aside0.mk (Kd.R_elder' (by (with_reducible repeat (first | apply Kd.R_alloc | apply Kd.R_drewN | apply Kd.R_drew)); exact HO252.out) (Kd.R_base ho0) hb); have n2_ := Aside0.mk (Kd.R_lower (Kd.R_new' (Kd.R_new' ho0 (Kd.R_lt (by (with_reducible repeat (first | apply Kd.R_alloc | apply Kd.R_drewN | apply Kd.R_drew)); exact HO_3.out))) (Kd.R_lt (by (with_reducible repeat (first | apply Kd.R_alloc | apply Kd.R_drewN | apply Kd.R_drew)); exact HO252.out))) (below_size (by repeat (first | (with_reducible first | exact HB.out | apply below_alloc | apply pw_below_drewN | apply below_drew1) | exact HB.out)))); have n3_ := Aside0.mk (below_step (by repeat (first | (with_reducible first | exact HB.out | apply below_alloc | apply pw_below_drewN | apply below_drew1) | exact HB.out)) hb); clear HO_3; clear HO252; clear HB; have HO_3 := n0_; have HO252 := n1_; have HO256 := n2_; have HB := n3_; clear n0_ n1_ n2_ n3_; (try clear hb); (try clear hb2); (try clear hk); (try clear hi); (try clear ho0)))
              go_loopg [3, 7] k1 (fun kq v3 v7 w' => ∃ (x3_2 : List Int) (x7_2 : Int), v7 = .int .i64 x7_2 ∧ Aside0 (spec_ODItf.l1 kq a0 x3_2 x4_1 t250 t254 x7_2 = some r) ∧ Aside0 (kq ≤ k1) ∧ Aside0 (Kd.R (Kd.int .i64) 3 w' w.heap.size (fun k_ => some k_ ≠ (v251 : Value).ownBlock ∧ some k_ ≠ (v255 : Value).ownBlock) v3 x3_2) ∧ Aside0 (Kd.R (Kd.int .i64) 3 w' w.heap.size (fun k_ => some k_ ≠ (v3 : Value).ownBlock ∧ some k_ ≠ (v255 : Value).ownBlock) v251 t250) ∧ Aside0 (Kd.R (Kd.int .i64) 3 w' w.heap.size (fun k_ => some k_ ≠ (v3 : Value).ownBlock ∧ some k_ ≠ (v251 : Value).ownBlock) v255 t254) ∧ Aside0 (Below w.heap.size w w'))
              case atStart => exact ⟨(x3_1), (0), (by first | rfl | (simp; done) | (simp [*]; done)), H', ⟨Nat.le_refl _⟩, ⟨by (with_reducible repeat (first | apply Kd.R_alloc | apply Kd.R_drewN | apply Kd.R_drew)); exact Kd.R_mono HO_3.out (fun _ hk => ⟨hk.1.2, hk.2⟩)⟩, ⟨by (with_reducible repeat (first | apply Kd.R_alloc | apply Kd.R_drewN | apply Kd.R_drew)); exact Kd.R_mono HO252.out (fun _ hk => ⟨hk.1.2, hk.2⟩)⟩, ⟨by (with_reducible repeat (first | apply Kd.R_alloc | apply Kd.R_drewN | apply Kd.R_drew)); exact Kd.R_mono HO256.out (fun _ hk => ⟨hk.1.2, hk.2⟩)⟩, ⟨by repeat (first | (with_reducible first | exact HB.out | apply below_alloc | apply pw_below_drewN | apply below_drew1) | exact HB.out)⟩⟩
              case round =>
                clear H'
                try clear c1
                try clear p1
                try clear q1
                try clear hx1
                try clear c2
                try clear p2
                try clear c3
                try clear c4
                try clear c4b0
                try clear c5
                try clear c5b0
                try clear c6
                try clear c6b0
                try clear p6
                try clear p7
                try clear q7
                try clear hx7
                try clear c11
                try clear c11b0
                try clear p12
                try clear q12
                try clear hx12
                try clear p12
                try clear p2
                try clear p7
                try clear q12
                try clear q7
                obtain ⟨x3_2, x7_2, rfl, HA, HK2, HO_3, HO_5, HO_6, HB⟩ := hrel
                cases gk with
                | zero => exact absurd HA.out (by simp [spec_ODItf.l1])
                | succ k2 =>
                  have H := HA.out
                  clear HA
                  simp only [spec_ODItf.l1] at H
                  by_cases c19 : x7_2 < 5
                  · rw [if_pos c19] at H
                    have c19b0 : decide (x7_2 < 5) = true := decide_eq_true c19
                    clear c19
                    by_cases c20 : 0 ≤ x7_2
                    · rw [if_pos c20] at H
                      have c20b0 : decide (0 ≤ x7_2) = true := decide_eq_true c20
                      clear c20
                      by_cases c21 : x7_2 < (t250.length : Int)
                      · rw [if_pos c21] at H
                        have c21b0 : decide (x7_2 < (t250.length : Int)) = true := decide_eq_true c21
                        clear c21
                        by_cases c22 : x7_2 < (t254.length : Int)
                        · rw [if_pos c22] at H
                          have c22b0 : decide (x7_2 < (t254.length : Int)) = true := decide_eq_true c22
                          clear c22
                          obtain ⟨y259, hy259⟩ : ∃ y_ : List Int, y_ = (([rd t250 x7_2, rd t254 x7_2] : List Int)) := ⟨_, rfl⟩
                          replace H : (if x3_2.length + y259.length < 17592186044416 then (spec_ODItf.l1 k2 a0 (x3_2 ++ y259) x4_1 t250 t254 (wrap64 (x7_2 + 1))) else (none)) = some r := by first | (rw [hy259]; with_reducible exact H) | (have H2_ := (Option.bind_some _ _).symm.trans H; rw [hy259]; with_reducible exact H2_) | (have H2_ := (Option.bind_some _ _).symm.trans H; with_reducible exact H2_) | with_reducible exact H | (rw [hy259]; exact H) | exact H
                          have Ny259 := Aside0.mk hy259
                          clear hy259
                          by_cases c23 : x3_2.length + y259.length < 17592186044416
                          · rw [if_pos c23] at H
                            have LMc23 := Aside0.mk c23
                            clear c23
                            obtain ⟨y262, hy262⟩ : ∃ y_ : List Int, y_ = (x3_2 ++ y259) := ⟨_, rfl⟩
                            replace H : (spec_ODItf.l1 k2 a0 y262 x4_1 t250 t254 (wrap64 (x7_2 + 1))) = some r := by first | (rw [hy262]; with_reducible exact H) | (have H2_ := (Option.bind_some _ _).symm.trans H; rw [hy262]; with_reducible exact H2_) | (have H2_ := (Option.bind_some _ _).symm.trans H; with_reducible exact H2_) | with_reducible exact H | (rw [hy262]; exact H) | exact H
                            have Ny262 := Aside0.mk hy262
                            clear hy262
                            have H' := Aside0.mk H
                            clear H
                            try go_wp2
                            have n0_ := Aside0.mk (Kd.R_drew HO_3.out)
                            have n1_ := Aside0.mk (Kd.R_drew HO_5.out)
                            have n2_ := Aside0.mk (Kd.R_drew HO_6.out)
                            have n3_ := Aside0.mk (below_drew1 HB.out)
                            clear HO_3
                            clear HO_5
                            clear HO_6
                            clear HB
                            have HO_3 := n0_
                            have HO_5 := n1_
                            have HO_6 := n2_
                            have HB := n3_
                            clear n0_ n1_ n2_ n3_
                            obtain ⟨Ao25, co25, eo25⟩ := Kd.R_slice HO_5.out
                            (first | subst eo25 | (injection eo25 with f1_ f2_ f3_; have f4_ := f1_.symm; have f5_ := f3_.symm; clear f1_ f2_ f3_; subst f4_; subst f5_))
                            have p257 : 0 ≤ (x7_2 : Int) := of_decide_eq_true (by first | (with_reducible assumption) | assumption)
                            have q257 : x7_2 < (t250.length : Int) := of_decide_eq_true (by first | (with_reducible assumption) | assumption)
                            obtain ⟨ad257, e257, hx257_0⟩ := Kd.at_int (Kd.R_reads' HO_5.out).2.2 x7_2 p257 q257
                            cases e257
                            replace p257 := eq_true p257
                            replace q257 := eq_true q257
                            obtain ⟨Ao26, co26, eo26⟩ := Kd.R_slice HO_6.out
                            (first | subst eo26 | (injection eo26 with f1_ f2_ f3_; have f4_ := f1_.symm; have f5_ := f3_.symm; clear f1_ f2_ f3_; subst f4_; subst f5_))
                            have p258 : 0 ≤ (x7_2 : Int) := of_decide_eq_true (by first | (with_reducible assumption) | assumption)
                            have q258 : x7_2 < (t254.length : Int) := of_decide_eq_true (by first | (with_reducible assumption) | assumption)
                            obtain ⟨ad258, e258, hx258_0⟩ := Kd.at_int (Kd.R_reads' HO_6.out).2.2 x7_2 p258 q258
                            cases e258
                            replace p258 := eq_true p258
                            replace q258 := eq_true q258
                            refine start_ (n := 12) (S := fun w' => w'.cell? (ad257.add (x7_2).toNat) = some (.int .i64 (rd t250 x7_2)) ∧ w'.cell? (ad258.add (x7_2).toNat) = some (.int .i64 (rd t254 x7_2))) (ds := [10]) #[false, false, false, false, false, false, false, false, false, false, false, false] (by kernel_rfl) rfl rfl ⟨hx257_0, hx258_0⟩ (fun hHeld => ?_); refine with_tabW spec_ODItf.tab10 spec_ODItf.bits10 (fun HT_ HW_ => ?_)
                            generalize wr.drew = w24 at HO_3 HO_5 HO_6 HB hx257_0 hx258_0 hHeld ⊢
                            refine pure_ (i := 0) (N := some 35) (v := ?_) (a' := ?_) #[true, false, false, false, false, false, false, false, false, false, false, false] rfl rfl (any_of HT_.out (by kernel_rfl)) (fun _ _ _ h => h) (Or.inl ⟨by rfl, ?_⟩) ?_ ?_
                            rotate_left
                            · intro w'
                              go_simp
                              with_reducible rfl
                            rotate_left
                            · simp only [Act.put, List.setIfInBounds_toArray, List.set_cons_zero, List.set_cons_succ, i64_w, i32_w]
                              rfl
                            refine pure_ (i := 1) (N := some 36) (v := ?_) (a' := ?_) #[true, true, false, false, false, false, false, false, false, false, false, false] rfl rfl (any_of HT_.out (by kernel_rfl)) (fun _ _ _ h => h) (Or.inl ⟨by rfl, ?_⟩) ?_ ?_
                            rotate_left
                            · intro w'
                              go_simp
                              with_reducible rfl
                            rotate_left
                            · simp only [Act.put, List.setIfInBounds_toArray, List.set_cons_zero, List.set_cons_succ, i64_w, i32_w]
                              rfl
                            refine pure_ (i := 2) (N := some 37) (v := ?_) (a' := ?_) #[true, true, true, false, false, false, false, false, false, false, false, false] rfl rfl (any_of HT_.out (by kernel_rfl)) (fun _ _ _ h => h) (Or.inl ⟨by rfl, ?_⟩) ?_ ?_
                            rotate_left
                            · intro w'
                              go_simp
                              with_reducible rfl
                            rotate_left
                            · simp only [Act.put, List.setIfInBounds_toArray, List.set_cons_zero, List.set_cons_succ, i64_w, i32_w]
                              rfl
                            refine pure_ (i := 3) (N := some 38) (v := ?_) (a' := ?_) #[true, true, true, true, false, false, false, false, false, false, false, false] rfl rfl (any_of HT_.out (by kernel_rfl)) (fun _ _ _ h => h) (Or.inl ⟨by rfl, ?_⟩) ?_ ?_
                            rotate_left
                            · intro w'
                              go_simp
                              with_reducible rfl
                            rotate_left
                            · simp only [Act.put, List.setIfInBounds_toArray, List.set_cons_zero, List.set_cons_succ, i64_w, i32_w]
                              rfl
                            refine pure_ (i := 5) (N := some 40) (v := ?_) (a' := ?_) #[true, true, true, true, false, true, false, false, false, false, false, false] rfl rfl (any_of HT_.out (by kernel_rfl)) (fun _ _ _ h => h) (Or.inl ⟨by rfl, ?_⟩) ?_ ?_
                            rotate_left
                            · intro w'
                              go_simp
                              with_reducible rfl
                            rotate_left
                            · simp only [Act.put, List.setIfInBounds_toArray, List.set_cons_zero, List.set_cons_succ, i64_w, i32_w]
                              rfl
                            refine pure_ (i := 6) (N := some 41) (v := ?_) (a' := ?_) #[true, true, true, true, false, true, true, false, false, false, false, false] rfl rfl (any_of HT_.out (by kernel_rfl)) (fun _ _ _ h => h) (Or.inl ⟨by rfl, ?_⟩) ?_ ?_
                            rotate_left
                            · intro w'
                              go_simp
                              with_reducible rfl
                            rotate_left
                            · simp only [Act.put, List.setIfInBounds_toArray, List.set_cons_zero, List.set_cons_succ, i64_w, i32_w]
                              rfl
                            refine pure_ (i := 7) (N := some 42) (v := ?_) (a' := ?_) #[true, true, true, true, false, true, true, true, false, false, false, false] rfl rfl (any_of HT_.out (by kernel_rfl)) (fun _ _ _ h => h) (Or.inl ⟨by rfl, ?_⟩) ?_ ?_
                            rotate_left
                            · intro w'
                              go_simp
                              with_reducible rfl
                            rotate_left
                            · simp only [Act.put, List.setIfInBounds_toArray, List.set_cons_zero, List.set_cons_succ, i64_w, i32_w]
                              rfl
                            refine take_ (i := 4) (N := some 39) (v := ?_) (a' := ?_) #[true, true, true, true, true, true, true, true, false, false, false, false] rfl rfl (take_ofW HT_.out HW_.out (by kernel_rfl)) (fun _ _ _ h => h) (Or.inl ⟨by rfl, ?_⟩) hHeld ?_ ?_
                            rotate_left
                            · rintro w' ⟨s0, s1⟩
                              go_simp
                              with_reducible rfl
                            rotate_left
                            · simp only [Act.put, List.setIfInBounds_toArray, List.set_cons_zero, List.set_cons_succ, i64_w, i32_w]
                              rfl
                            refine take_ (i := 8) (N := some 43) (v := ?_) (a' := ?_) #[true, true, true, true, true, true, true, true, true, false, false, false] rfl rfl (take_ofW HT_.out HW_.out (by kernel_rfl)) (fun _ _ _ h => h) (Or.inl ⟨by rfl, ?_⟩) hHeld ?_ ?_
                            rotate_left
                            · rintro w' ⟨s0, s1⟩
                              go_simp
                              with_reducible rfl
                            rotate_left
                            · simp only [Act.put, List.setIfInBounds_toArray, List.set_cons_zero, List.set_cons_succ, i64_w, i32_w]
                              rfl
                            refine one_ (i := 9) (N := some 44) #[true, true, true, true, true, true, true, true, true, true, false, false] rfl rfl (one_of HT_.out (by kernel_rfl)) (by decide) (fun K hK => ?_)
                            refine Kd.R_lit_step (Kd.int .i64) _ 3 ?hg (N := 44) ?hd (xs := ([rd t250 x7_2, rd t254 x7_2] : List Int)) (inner := [.int .i64 (rd t250 x7_2), .int .i64 (rd t254 x7_2)]) (ok := fun _ => True) (okp := fun _ => True) ?hr ?hp (fun _ hk => hk) trivial (Below.refl _ _) (Nat.le_refl _) (by simp) ?_; (case hd => rfl); (case hg => rfl); (case hr => first | (go_simp; done) | (go_simp; rfl)); (case hp => exact (Reps.one (show Kd.M (Kd.int .i64) _ _ _ (rd t250 x7_2) [.int .i64 (rd t250 x7_2)] from rfl) (Reps.one (show Kd.M (Kd.int .i64) _ _ _ (rd t254 x7_2) [.int .i64 (rd t254 x7_2)] from rfl) (Reps.none _ _))))
                            intro v260 w27 ho28 hb hg_ hnew_
                            have HS0_ := (hb.cell (World.block_lt_of_cell? _ _ (hHeld.1))).trans (hHeld.1)
                            have HS1_ := (hb.cell (World.block_lt_of_cell? _ _ (hHeld.2))).trans (hHeld.2)
                            clear hg_ hnew_
                            (first | rw [← Ny259.out] at ho28 | (simp only [Int.reduceToNat] at ho28; rw [← Ny259.out] at ho28))
                            have n0_ := Aside0.mk (Kd.R_elder' (by (with_reducible repeat (first | apply Kd.R_alloc | apply Kd.R_drewN | apply Kd.R_drew)); exact HO_3.out) (Kd.R_base ho28) hb)
                            have n1_ := Aside0.mk (Kd.R_elder' (by (with_reducible repeat (first | apply Kd.R_alloc | apply Kd.R_drewN | apply Kd.R_drew)); exact HO_5.out) (Kd.R_base ho28) hb)
                            have n2_ := Aside0.mk (Kd.R_elder' (by (with_reducible repeat (first | apply Kd.R_alloc | apply Kd.R_drewN | apply Kd.R_drew)); exact HO_6.out) (Kd.R_base ho28) hb)
                            have n3_ := Aside0.mk (Kd.R_lower (Kd.R_new' (Kd.R_new' (Kd.R_new' ho28 (Kd.R_lt (by (with_reducible repeat (first | apply Kd.R_alloc | apply Kd.R_drewN | apply Kd.R_drew)); exact HO_3.out))) (Kd.R_lt (by (with_reducible repeat (first | apply Kd.R_alloc | apply Kd.R_drewN | apply Kd.R_drew)); exact HO_5.out))) (Kd.R_lt (by (with_reducible repeat (first | apply Kd.R_alloc | apply Kd.R_drewN | apply Kd.R_drew)); exact HO_6.out))) (below_size (by repeat (first | (with_reducible first | exact HB.out | apply below_alloc | apply pw_below_drewN | apply below_drew1) | exact HB.out))))
                            have n4_ := Aside0.mk (below_step (by repeat (first | (with_reducible first | exact HB.out | apply below_alloc | apply pw_below_drewN | apply below_drew1) | exact HB.out)) hb)
                            clear HO_3
                            clear HO_5
                            clear HO_6
                            clear HB
                            have HO_3 := n0_
                            have HO_5 := n1_
                            have HO_6 := n2_
                            have HO261 := n3_
                            have HB := n4_
                            clear n0_ n1_ n2_ n3_ n4_
                            clear hb ho28
                            obtain ⟨Ao30, co30, eo30⟩ := Kd.R_slice HO261.out
                            (first | subst eo30 | (injection eo30 with f1_ f2_ f3_; have f4_ := f1_.symm; have f5_ := f3_.symm; clear f1_ f2_ f3_; subst f4_; subst f5_))
                            refine hK.out _ _ ⟨HS0_, HS1_⟩ (fun hHeld => ?_)
                            clear hK K
                            refine norm_ (a' := ?_) ?_ ?_
                            rotate_left
                            · show Act.put _ (some 44) _ = _
                              simp only [Act.put, List.setIfInBounds_toArray, List.set_cons_zero, List.set_cons_succ, i64_w, i32_w]
                              rfl
                            refine last_ (i := 10) (N := some 45) #[true, true, true, true, true, true, true, true, true, true, true, false] rfl rfl (one_of HT_.out (by kernel_rfl)) (by decide) (fun K hK => ?_)
                            refine Kd.R_append_rows_step (Kd.int .i64) (w0 := w) w.heap.size (by rfl) (.tmp 35) (.tmp 44) 40 3 (.int .i64 0) 8 rfl Tryz.underlying40 info3 rfl (by decide) (by omega) u3 x3_2 y259 _ _ _ (fun k_ => some k_ ≠ (.slice (some ad257) t250.length co25 : Value).ownBlock ∧ some k_ ≠ (.slice (some ad258) t254.length co26 : Value).ownBlock ∧ some k_ ≠ (.slice Ao30 y259.length co30 : Value).ownBlock) (fun _ => False) rfl rfl ?aO ?aR (fun _ _ h => h) (fun _ h => h.elim) ?aF ?aB ?aS ?aL ?_
                            (case aR => repeat (first | exact (Kd.R_reads' HO261.out).2.2 | (with_reducible refine Kd.C_alloc ?_ _) | (with_reducible refine Kd.C_drewN ?_ _) | (with_reducible refine Kd.C_drew ?_)))
                            (case aB => exact (by repeat (first | (with_reducible first | exact HB.out | apply below_alloc | apply pw_below_drewN | apply below_drew1) | exact HB.out)))
                            (case aF => exact (fun k_ hk => ⟨Kd.fresh' (Kd.R_lt (by (with_reducible repeat (first | apply Kd.R_alloc | apply Kd.R_drewN | apply Kd.R_drew)); exact HO_5.out)) k_ hk, Kd.fresh' (Kd.R_lt (by (with_reducible repeat (first | apply Kd.R_alloc | apply Kd.R_drewN | apply Kd.R_drew)); exact HO_6.out)) k_ hk, Kd.fresh' (Kd.R_lt (by (with_reducible repeat (first | apply Kd.R_alloc | apply Kd.R_drewN | apply Kd.R_drew)); exact HO261.out)) k_ hk⟩))
                            (case aO => exact (by (with_reducible repeat (first | apply Kd.R_alloc | apply Kd.R_drewN | apply Kd.R_drew)); exact Kd.R_mono HO_3.out (fun _ hk => ⟨hk.1.1, ⟨hk.1.2, hk.2⟩⟩)))
                            (case aS => exact (below_size (by repeat (first | (with_reducible first | exact HB.out | apply below_alloc | apply pw_below_drewN | apply below_drew1) | exact HB.out))))
                            (case aL => have := LMc23.out; omega)
                            intro v263 w29 ho hb hg hat
                            rw [← Ny262.out] at ho
                            have n0_ := Aside0.mk (Kd.R_after (ok := (fun k_ => some k_ ≠ (.slice (some ad258) t254.length co26 : Value).ownBlock ∧ some k_ ≠ (.slice Ao30 y259.length co30 : Value).ownBlock)) (by (with_reducible repeat (first | apply Kd.R_alloc | apply Kd.R_drewN | apply Kd.R_drew)); exact Kd.R_mono HO_5.out (fun _ hk => ⟨⟨hk.1.2, hk.2⟩, hk.1.1⟩)) hg hat)
                            have n1_ := Aside0.mk (Kd.R_after (ok := (fun k_ => some k_ ≠ (.slice (some ad257) t250.length co25 : Value).ownBlock ∧ some k_ ≠ (.slice Ao30 y259.length co30 : Value).ownBlock)) (by (with_reducible repeat (first | apply Kd.R_alloc | apply Kd.R_drewN | apply Kd.R_drew)); exact Kd.R_mono HO_6.out (fun _ hk => ⟨⟨hk.1.2, hk.2⟩, hk.1.1⟩)) hg hat)
                            have n2_ := Aside0.mk (Kd.R_after (ok := (fun k_ => some k_ ≠ (.slice (some ad257) t250.length co25 : Value).ownBlock ∧ some k_ ≠ (.slice (some ad258) t254.length co26 : Value).ownBlock)) (by (with_reducible repeat (first | apply Kd.R_alloc | apply Kd.R_drewN | apply Kd.R_drew)); exact Kd.R_mono HO261.out (fun _ hk => ⟨⟨hk.1.2, hk.2⟩, hk.1.1.2⟩)) hg hat)
                            have n3_ := Aside0.mk (hb)
                            have n4_ := Aside0.mk (ho)
                            clear HO_5
                            clear HO_6
                            clear HO261
                            clear HB
                            clear HO_3
                            have HO_5 := n0_
                            have HO_6 := n1_
                            have HO261 := n2_
                            have HB := n3_
                            have HO264 := n4_
                            clear n0_ n1_ n2_ n3_ n4_
                            clear ho hb hg hat
                            refine hK.out _ _ ?_
                            clear hK K
                            refine norm_ (a' := ?_) ?_ ?_
                            rotate_left
                            · show Act.put _ (some 45) _ = _
                              simp only [Act.put, List.setIfInBounds_toArray, List.set_cons_zero, List.set_cons_succ, i64_w, i32_w]
                              rfl
                            refine pure_ (i := 11) (N := some 3) (v := ?_) (a' := ?_) #[true, true, true, true, true, true, true, true, true, true, true, true] rfl rfl (any_of HT_.out (by kernel_rfl)) (fun _ _ _ h => h) (Or.inl ⟨by rfl, ?_⟩) ?_ ?_
                            rotate_left
                            · intro w'
                              go_simp
                              with_reducible rfl
                            rotate_left
                            · simp only [Act.put, List.setIfInBounds_toArray, List.set_cons_zero, List.set_cons_succ, i64_w, i32_w]
                              rfl
                            refine done_ (done_of HT_.out (by kernel_rfl)) ?_
                            try go_wp2
                            go_roundg k2
                            case measure => have := HK1.out; have := HK2.out; omega
                            case rel => exact ⟨(y262), (wrap64 (x7_2 + 1)), (by first | rfl | (simp; done) | (simp [*]; done)), H', ⟨by have := HK1.out; have := HK2.out; omega⟩, ⟨by (with_reducible repeat (first | apply Kd.R_alloc | apply Kd.R_drewN | apply Kd.R_drew)); exact Kd.R_mono HO264.out (fun _ hk => ⟨hk.1, hk.2.1⟩)⟩, ⟨by (with_reducible repeat (first | apply Kd.R_alloc | apply Kd.R_drewN | apply Kd.R_drew)); exact Kd.R_mono HO_5.out (fun _ hk => ⟨hk.2, hk.1.1⟩)⟩, ⟨by (with_reducible repeat (first | apply Kd.R_alloc | apply Kd.R_drewN | apply Kd.R_drew)); exact Kd.R_mono HO_6.out (fun _ hk => ⟨hk.2, hk.1.1⟩)⟩, ⟨by repeat (first | (with_reducible first | exact HB.out | apply below_alloc | apply pw_below_drewN | apply below_drew1) | exact HB.out)⟩⟩
                          · rw [if_neg c23] at H
                            exact absurd H (by simp)
                        · rw [if_neg c22] at H
                          exact absurd H (by simp)
                      · rw [if_neg c21] at H
                        exact absurd H (by simp)
                    · rw [if_neg c20] at H
                      exact absurd H (by simp)
                  · rw [if_neg c19] at H
                    have c19b0 : decide (x7_2 < 5) = false := decide_eq_false c19
                    clear c19
                    have H' := Aside0.mk H
                    clear H
                    go_wp2
                    go_roundg k2
                    case measure => have := HK1.out; have := HK2.out; omega
                    case rel => exact ⟨(x3_2), (wrap64 (x4_1 + 2)), (by first | rfl | (simp; done) | (simp [*]; done)), H', ⟨by have := HK1.out; have := HK2.out; omega⟩, ⟨by (with_reducible repeat (first | apply Kd.R_alloc | apply Kd.R_drewN | apply Kd.R_drew)); exact Kd.R_mono HO_3.out (fun _ hk => trivial)⟩, ⟨by repeat (first | (with_reducible first | exact HB.out | apply below_alloc | apply pw_below_drewN | apply below_drew1) | exact HB.out)⟩⟩
            · rw [if_neg c11] at H
              exact absurd H (by simp)
          · rw [if_neg c6] at H
            exact absurd H (by simp)
        · rw [if_neg c5] at H
          exact absurd H (by simp)
      · rw [if_neg c4] at H
        have c4b0 : decide ((wrap64 (x4_1 + 1)) < (a0.size : Int)) = false := decide_eq_false c4
        clear c4
        obtain ⟨y240, hy240⟩ : ∃ y_ : List Int, y_ = (([3, 1, 1] : List Int)) := ⟨_, rfl⟩
        replace H : (if x3_1.length + y240.length < 17592186044416 then ((spec_ODBars.f k1 (x3_1 ++ y240)).bind fun t246 => (some t246)) else (none)) = some r := by first | (rw [hy240]; with_reducible exact H) | (have H2_ := (Option.bind_some _ _).symm.trans H; rw [hy240]; with_reducible exact H2_) | (have H2_ := (Option.bind_some _ _).symm.trans H; with_reducible exact H2_) | with_reducible exact H | (rw [hy240]; exact H) | exact H
        have Ny240 := Aside0.mk hy240
        clear hy240
        by_cases c31 : x3_1.length + y240.length < 17592186044416
        · rw [if_pos c31] at H
          have LMc31 := Aside0.mk c31
          clear c31
          obtain ⟨y243, hy243⟩ : ∃ y_ : List Int, y_ = (x3_1 ++ y240) := ⟨_, rfl⟩
          replace H : ((spec_ODBars.f k1 y243).bind fun t246 => (some t246)) = some r := by first | (rw [hy243]; with_reducible exact H) | (have H2_ := (Option.bind_some _ _).symm.trans H; rw [hy243]; with_reducible exact H2_) | (have H2_ := (Option.bind_some _ _).symm.trans H; with_reducible exact H2_) | with_reducible exact H | (rw [hy243]; exact H) | exact H
          have Ny243 := Aside0.mk hy243
          clear hy243
          replace H := Option.bind_eq_some_iff.mp H
          obtain ⟨t246, A320, H⟩ := H
          replace H : (some t246) = some r := H
          have A32 := Aside0.mk A320
          clear A320
          obtain rfl := Option.some.inj H
          go_wp2_with (first | ((with_reducible refine gate_dst (N := 47) rfl ?_); refine Kd.R_lit (Kd.int .i64) _ 3 ?hg (N := 47) ?hd (xs := ([3, 1, 1] : List Int)) (inner := [.int .i64 3, .int .i64 1, .int .i64 1]) (ok := fun _ => True) (okp := fun _ => True) ?hr ?hp (fun _ hk => hk) trivial (Below.refl _ _) (Nat.le_refl _) (by simp) ?_; (case hd => rfl); (case hg => rfl); (case hr => first | (go_simp; done) | (go_simp; rfl)); (case hp => exact (Reps.one (show Kd.M (Kd.int .i64) _ _ _ 3 [.int .i64 3] from rfl) (Reps.one (show Kd.M (Kd.int .i64) _ _ _ 1 [.int .i64 1] from rfl) (Reps.one (show Kd.M (Kd.int .i64) _ _ _ 1 [.int .i64 1] from rfl) (Reps.none _ _))))); intro v241 w33 ho34 hb hg_ hnew_; clear hg_ hnew_; (first | rw [← Ny240.out] at ho34 | (simp only [Int.reduceToNat] at ho34; rw [← Ny240.out] at ho34)); have n0_ := Aside0.mk (Kd.R_elder' (by (with_reducible repeat (first | apply Kd.R_alloc | apply Kd.R_drewN | apply Kd.R_drew)); exact HO_3.out) (Kd.R_base ho34) hb); have n1_ := Aside0.mk (Kd.R_lower (Kd.R_new' ho34 (Kd.R_lt (by (with_reducible repeat (first | apply Kd.R_alloc | apply Kd.R_drewN | apply Kd.R_drew)); exact HO_3.out))) (below_size (by repeat (first | (with_reducible first | exact HB.out | apply below_alloc | apply pw_below_drewN | apply below_drew1) | exact HB.out)))); have n2_ := Aside0.mk (below_step (by repeat (first | (with_reducible first | exact HB.out | apply below_alloc | apply pw_below_drewN | apply below_drew1) | exact HB.out)) hb); clear HO_3; clear HB; have HO_3 := n0_; have HO242 := n1_; have HB := n2_; clear n0_ n1_ n2_; clear hb ho34; obtain ⟨Ao36, co36, eo36⟩ := Kd.R_slice HO242.out; subst eo36) | ((with_reducible refine gate_builtin (b := .append) (xs := #[.tmp 46, .tmp 47]) rfl ?_); at_builtin; refine Kd.R_append_rows (Kd.int .i64) (w0 := w) w.heap.size rfl (.tmp 46) (.tmp 47) 40 3 (.int .i64 0) 8 rfl Tryz.underlying40 info3 rfl (by decide) (by omega) u3 x3_1 y240 _ _ _ (fun k_ => some k_ ≠ (.slice Ao36 y240.length co36 : Value).ownBlock) (fun _ => False) rfl rfl ?aO ?aR (fun _ _ h => h) (fun _ h => h.elim) ?aF ?aB ?aS ?aL ?_; (case aR => repeat (first | exact (Kd.R_reads' HO242.out).2.2 | (with_reducible refine Kd.C_alloc ?_ _) | (with_reducible refine Kd.C_drewN ?_ _) | (with_reducible refine Kd.C_drew ?_))); (case aB => exact (by repeat (first | (with_reducible first | exact HB.out | apply below_alloc | apply pw_below_drewN | apply below_drew1) | exact HB.out))); (case aF => exact (fun k_ hk => Kd.fresh' (Kd.R_lt (by (with_reducible repeat (first | apply Kd.R_alloc | apply Kd.R_drewN | apply Kd.R_drew)); exact HO242.out)) k_ hk)); (case aO => exact (by (with_reducible repeat (first | apply Kd.R_alloc | apply Kd.R_drewN | apply Kd.R_drew)); exact Kd.R_mono HO_3.out (fun _ hk => hk.2))); (case aS => exact (below_size (by repeat (first | (with_reducible first | exact HB.out | apply below_alloc | apply pw_below_drewN | apply below_drew1) | exact HB.out)))); (case aL => have := LMc31.out; omega); intro v244 w35 ho hb hg hat; rw [← Ny243.out] at ho; have n0_ := Aside0.mk (Kd.R_after (ok := (fun _ => True)) (by (with_reducible repeat (first | apply Kd.R_alloc | apply Kd.R_drewN | apply Kd.R_drew)); exact HO242.out) hg hat); have n1_ := Aside0.mk (hb); have n2_ := Aside0.mk (ho); clear HO242; clear HB; clear HO_3; have HO242 := n0_; have HB := n1_; have HO245 := n2_; clear n0_ n1_ n2_; clear ho hb hg hat; obtain ⟨Ao37, co37, eo37⟩ := Kd.R_slice HO245.out; subst eo37) | ((with_reducible refine gate_callee (f := 38) rfl ?_); refine goesL_ (some 49) rfl rfl Tryz.func38 (by kernel_rfl) rfl #[.slice Ao37 y243.length co37] rfl (by (try simp only [List.map_toArray, List.map_cons, List.map_nil]); first | done | rfl | (simp only [List.length_drop, List.length_take]; rfl)) ?_; (with_reducible refine (spec_ODBars.calls k1 _ _ y243 t246 _ ?side1 ?side2 A32.out).mono ?_); (case side1 => repeat (first | exact (Kd.R_reads' HO245.out).2.2 | (with_reducible refine Kd.C_alloc ?_ _) | (with_reducible refine Kd.C_drewN ?_ _) | (with_reducible refine Kd.C_drew ?_))); (case side2 => exact (Kd.R_reads' HO245.out).2.1); rintro e w38 ⟨v247, rfl, ho0, hb⟩; refine ⟨_, rfl, ?_⟩; have n0_ := Aside0.mk (Kd.R_below (by (with_reducible repeat (first | apply Kd.R_alloc | apply Kd.R_drewN | apply Kd.R_drew)); exact HO242.out) hb); have n1_ := Aside0.mk (Kd.R_below (by (with_reducible repeat (first | apply Kd.R_alloc | apply Kd.R_drewN | apply Kd.R_drew)); exact HO245.out) hb); have n2_ := Aside0.mk (Kd.R_lower ho0 (below_size (by repeat (first | (with_reducible first | exact HB.out | apply below_alloc | apply pw_below_drewN | apply below_drew1) | exact HB.out)))); have n3_ := Aside0.mk (below_step (by repeat (first | (with_reducible first | exact HB.out | apply below_alloc | apply pw_below_drewN | apply below_drew1) | exact HB.out)) hb); clear HO242; clear HO245; clear HB; have HO242 := n0_; have HO245 := n1_; have HO248 := n2_; have HB := n3_; clear n0_ n1_ n2_ n3_; (try clear hb); (try clear hb2); (try clear hk); (try clear hi); (try clear ho0)))
          go_ret
          exact ⟨_, by first | rfl | (simp [errW_none, errW_some] <;> rfl) | (simp [*, errW_none, errW_some] <;> rfl), by (with_reducible repeat (first | apply Kd.R_alloc | apply Kd.R_drewN | apply Kd.R_drew)); exact HO248.out, by repeat (first | (with_reducible first | exact HB.out | apply below_alloc | apply pw_below_drewN | apply below_drew1) | exact HB.out)⟩
        · rw [if_neg c31] at H
          exact absurd H (by simp)

-- NOT PRINTED: function 5 (laws_FnODWritesItf)
end Go.Proofs.YthkddnmomjcdaaaGreat.F
