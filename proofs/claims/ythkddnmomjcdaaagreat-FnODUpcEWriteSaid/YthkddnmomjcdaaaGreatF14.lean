import Derived.Test.YthkddnmomjcdaaaGreatF0
namespace Go.Proofs.YthkddnmomjcdaaaGreat.F
open Go.RowKit Go.Proofs.YthkddnmomjcdaaaGreatW.PrintWords Go.Proofs.YthkddnmomjcdaaaGreatW.PrintLast Go.Proofs.YthkddnmomjcdaaaGreatW.PrintMore
attribute [local go_sem] max2_int min2_int max_two min_two max_three min_three max_four min_four   -- for this text's walks alone
set_option linter.unusedVariables false
set_option linter.unusedSimpArgs false

/-! ### laws_odWidths: function 14 -/
def laws_odWidths.f (a0 : Int) (a1 : Int) : Option (Int × Int) := some (Int.tmod (wrap64 (a0)) 3000, wrap64 (20 + (Int.tmod (wrap64 (a1)) 40)))
set_option maxHeartbeats 8000000 in
set_option maxRecDepth 100000 in
theorem laws_odWidths.calls (a0 : Int) (a1 : Int) (r1 : Int) (r2 : Int) (w : World) (h : laws_odWidths.f a0 a1 = some (r1, r2)) :
    Calls Tryz.prog 14 #[.int .u16 a0, .int .u8 a1] w fun e w' => e = .returned (.tuple #[.int .i64 r1, .int .i64 r2]) ∧ Drawn0 w w' := by
  have H : (some (Int.tmod (wrap64 (a0)) 3000, wrap64 (20 + (Int.tmod (wrap64 (a1)) 40)))) = some (r1, r2) := h
  clear h
  simp only [Option.some.injEq, Prod.mk.injEq] at H
  obtain ⟨rfl, rfl⟩ := H
  go_enter Tryz.func14, Tryz.ntmps14
  go_wp2
  go_ret2
  exact ⟨by first | rfl | (simp; done) | (simp [*]; done), by repeat (first | exact Drawn0.refl _ | apply Drawn0.step)⟩

-- NOT PRINTED: function 70 (oned_NewOneDimensionalCodeWriter)

-- NOT PRINTED: function 48 (oned_NewCodaBarWriter)

-- NOT PRINTED: function 49 (oned_NewCode39Writer)

-- NOT PRINTED: function 50 (oned_NewCode93Writer)

-- NOT PRINTED: function 51 (oned_NewCode128Writer)

-- NOT PRINTED: function 71 (oned_NewUPCEANWriter)

-- NOT PRINTED: function 52 (oned_NewEAN8Writer)

-- NOT PRINTED: function 53 (oned_NewEAN13Writer)

-- NOT PRINTED: function 54 (oned_NewITFWriter)

-- NOT PRINTED: function 55 (oned_NewUPCAWriter)

-- NOT PRINTED: function 56 (oned_NewUPCEWriter)

-- NOT PRINTED: function 29 (impl_writer)

/-- A state of type 100 at block g of W; what its slices lead to came in by w0. -/
def IsS100 (w0 W : World) (g : Nat) (f0 : List Int) (f1 : Int) : Prop := ∃ A0 c0, W.heap[g]? = some (.cells #[.slice A0 f0.length c0, .int .i64 f1] 100 (0, 0)) ∧ w0.heap.size ≤ g ∧ Kd.C (Kd.int .u32) w0 A0 f0.length f0
theorem IsS100.grown {w0 W : World} {g : Nat} {f0 : List Int} {f1 : Int} {W1 : World} {row : Option Nat} (h : IsS100 w0 W g f0 f1) (hw : W.grownBy W1 row) (hne : some g ≠ row) : IsS100 w0 W1 g f0 f1 := by
  obtain ⟨A0, c0, hb, hg, hr0⟩ := h
  exact ⟨A0, c0, blk_grown hb hw hne, hg, hr0⟩
theorem IsS100.own_neN {w0 W : World} {g : Nat} {f0 : List Int} {f1 : Int} {α : Type} {d : Kd α} {e : Nat} {base : Nat} {ok : Nat → Prop} {v : Value} {xs : List α} (h : IsS100 w0 W g f0 f1) (ho : Kd.N d e W base ok v xs) (ht : e ≠ 100) : some g ≠ v.ownBlock := by
  obtain ⟨A0, c0, hb, hg, hr0⟩ := h
  exact Kd.N_ne ho hb ht
theorem IsS100.fresh {w0 W : World} {g : Nat} {f0 : List Int} {f1 : Int} (h : IsS100 w0 W g f0 f1) : ∀ k, W.heap.size ≤ k → k ≠ g := by
  obtain ⟨A0, c0, hb, hg, hr0⟩ := h
  exact Kd.freshB hb
theorem IsS100.kept {w0 W : World} {g : Nat} {f0 : List Int} {f1 : Int} {W1 : World} {S : Nat → Prop} (h : IsS100 w0 W g f0 f1) (hk : Kept W W1 S) (hne : ¬ S g) : IsS100 w0 W1 g f0 f1 := by
  obtain ⟨A0, c0, hb, hg, hr0⟩ := h
  exact ⟨A0, c0, blk_kept hb hk hne, hg, hr0⟩
theorem IsS100.below {w0 W : World} {g : Nat} {f0 : List Int} {f1 : Int} {W1 : World} (h : IsS100 w0 W g f0 f1) (hw : Below W.heap.size W W1) : IsS100 w0 W1 g f0 f1 := h.grown (grown_of_below hw none) (by simp)
theorem IsS100.alloc {w0 W : World} {g : Nat} {f0 : List Int} {f1 : Int} (h : IsS100 w0 W g f0 f1) (o : Obj) : IsS100 w0 (W.alloc o) g f0 f1 := h.below (below_alloc (Below.refl _ _) o)
theorem IsS100.drewN {w0 W : World} {g : Nat} {f0 : List Int} {f1 : Int} (h : IsS100 w0 W g f0 f1) (m : Nat) : IsS100 w0 (W.drewN m) g f0 f1 := h
theorem IsS100.drew {w0 W : World} {g : Nat} {f0 : List Int} {f1 : Int} (h : IsS100 w0 W g f0 f1) : IsS100 w0 W.drew g f0 f1 := h
theorem IsS100.at_ {w0 W : World} {g : Nat} {f0 : List Int} {f1 : Int} {w' : World} {m : Nat} (hq : W.drewN m = w') (h : IsS100 w0 W g f0 f1) : IsS100 w0 w' g f0 f1 := by subst hq; exact IsS100.drewN h m
theorem IsS100.apart {w0 W : World} {g : Nat} {f0 : List Int} {f1 : Int} {α : Type} {d : Kd α} {e : Nat} {base : Nat} {ok : Nat → Prop} {v : Value} {xs : List α} (h : IsS100 w0 W g f0 f1) (ho : d.R e W base ok v xs) (ht : ∀ q, q ∈ e :: d.E → q ≠ 100) : d.R e W base (fun k => ok k ∧ k ≠ g) v xs := by
  obtain ⟨A0, c0, hb, hg, hr0⟩ := h
  exact Kd.R_types ho hb ht
theorem IsS100.own_ne {w0 W : World} {g : Nat} {f0 : List Int} {f1 : Int} {α : Type} {d : Kd α} {e : Nat} {base : Nat} {ok : Nat → Prop} {v : Value} {xs : List α} (h : IsS100 w0 W g f0 f1) (ho : d.R e W base ok v xs) (ht : e ≠ 100) : some g ≠ v.ownBlock := by
  obtain ⟨A0, c0, hb, hg, hr0⟩ := h
  exact Kd.R_ne ho hb ht
theorem IsS100.apartQ {w0 W : World} {g : Nat} {f0 : List Int} {f1 : Int} {α : Type} {d : Kd α} {e : Nat} {base : Nat} {ok : Nat → Prop} {v : Value} {xs : List α} (h : IsS100 w0 W g f0 f1) (ho : d.Q e W base ok v xs) (ht : ∀ q, q ∈ e :: d.E → q ≠ 100) : d.Q e W base (fun k => ok k ∧ k ≠ g) v xs := by
  obtain ⟨A0, c0, hb, hg, hr0⟩ := h
  exact Kd.Q_types ho hb ht
theorem IsS100.own_neQ {w0 W : World} {g : Nat} {f0 : List Int} {f1 : Int} {α : Type} {d : Kd α} {e : Nat} {base : Nat} {ok : Nat → Prop} {v : Value} {xs : List α} (h : IsS100 w0 W g f0 f1) (ho : d.Q e W base ok v xs) (ht : e ≠ 100) : some g ≠ v.ownBlock := by
  obtain ⟨A0, c0, hb, hg, hr0⟩ := h
  exact Kd.Q_ne ho hb ht
theorem IsS100.apartS {w0 W : World} {g : Nat} {f0 : List Int} {f1 : Int} {α : Type} {d : Kd α} {e : Nat} {base : Nat} {ok : Nat → Prop} {v : Value} {xs : List α} (h : IsS100 w0 W g f0 f1) (ho : d.S e W base ok v xs) (ht : ∀ q, q ∈ e :: d.E → q ≠ 100) : d.S e W base (fun k => ok k ∧ k ≠ g) v xs := by
  obtain ⟨A0, c0, hb, hg, hr0⟩ := h
  exact Kd.S_types ho hb ht
theorem IsS100.own_neS {w0 W : World} {g : Nat} {f0 : List Int} {f1 : Int} {α : Type} {d : Kd α} {e : Nat} {base : Nat} {ok : Nat → Prop} {v : Value} {xs : List α} (h : IsS100 w0 W g f0 f1) (ho : d.S e W base ok v xs) (ht : e ≠ 100) : some g ≠ v.ownBlock := by
  obtain ⟨A0, c0, hb, hg, hr0⟩ := h
  exact Kd.S_ne ho hb ht
theorem IsS100.lt {w0 W : World} {g : Nat} {f0 : List Int} {f1 : Int} (h : IsS100 w0 W g f0 f1) : g < W.heap.size := by
  obtain ⟨A0, c0, hb, hg, hr0⟩ := h
  exact blk_lt hb
theorem IsS100.ge {w0 W : World} {g : Nat} {f0 : List Int} {f1 : Int} (h : IsS100 w0 W g f0 f1) : w0.heap.size ≤ g := by
  obtain ⟨A0, c0, hb, hg, hr0⟩ := h
  exact hg
theorem IsS100.ne_blk {w0 W : World} {g : Nat} {f0 : List Int} {f1 : Int} {a : Nat} {cs : Array Value} {t : TypeId} {fr : Nat × Nat} (h : IsS100 w0 W g f0 f1) (hb2 : W.heap[a]? = some (.cells cs t fr)) (ht : t ≠ 100) : g ≠ a := by
  obtain ⟨A0, c0, hb, hg, hr0⟩ := h
  rintro rfl
  rw [hb] at hb2
  injection hb2 with hb2
  injection hb2 with _ ht2
  exact ht ht2.symm
theorem IsS100.far {w0 W : World} {g : Nat} {f0 : List Int} {f1 : Int} {p : Addr} (h : IsS100 w0 W g f0 f1) (hne : g ≠ p.block) (u : Value) : IsS100 w0 (W.setCell p u) g f0 f1 := by
  obtain ⟨A0, c0, hb, hg, hr0⟩ := h
  exact ⟨A0, c0, blk_far hb hne u, hg, hr0⟩
theorem cellS100_0 {W : World} {g : Nat} {A0 : Option Addr} {c0 : Nat} {f0 : List Int} {f1 : Int} (h : W.heap[g]? = some (.cells #[.slice A0 f0.length c0, .int .i64 f1] 100 (0, 0))) : W.cell? ⟨g, 0, none⟩ = some (.slice A0 f0.length c0) := (blk_cell h 0).trans rfl
theorem cellS100_1 {W : World} {g : Nat} {A0 : Option Addr} {c0 : Nat} {f0 : List Int} {f1 : Int} (h : W.heap[g]? = some (.cells #[.slice A0 f0.length c0, .int .i64 f1] 100 (0, 0))) : W.cell? ⟨g, 1, none⟩ = some (.int .i64 f1) := (blk_cell h 1).trans rfl
theorem IsS100.set_1 {w0 W : World} {g : Nat} {f0 : List Int} {f1 : Int} (h : IsS100 w0 W g f0 f1) (x : Int) : IsS100 w0 (W.setCell ⟨g, 1, none⟩ (.int .i64 x)) g f0 x := by
  obtain ⟨A0, c0, hb, hg, hr0⟩ := h
  exact ⟨A0, c0, by simpa using blk_set hb 1 (.int .i64 x), hg, hr0⟩
theorem IsS100.new (w0 W : World) (A0 : Option Addr) (c0 : Nat) (f0 : List Int) (f1 : Int) (hB : Below w0.heap.size w0 W) (hr0 : Kd.C (Kd.int .u32) w0 A0 f0.length f0) : IsS100 w0 (W.alloc (.cells #[.slice A0 f0.length c0, .int .i64 f1] 100)) W.heap.size f0 f1 := ⟨A0, c0, by simpa using heap_alloc_new W _, hB.size, hr0⟩

end Go.Proofs.YthkddnmomjcdaaaGreat.F
