import Derived.Test.YtgccjgpdjkhpdaaGreatF0
namespace Go.Proofs.YtgccjgpdjkhpdaaGreat.F
open Go.RowKit Go.Proofs.YtgccjgpdjkhpdaaGreatW.PrintWords Go.Proofs.YtgccjgpdjkhpdaaGreatW.PrintLast Go.Proofs.YtgccjgpdjkhpdaaGreatW.PrintMore
attribute [local go_sem] max2_int min2_int max_two min_two max_three min_three max_four min_four   -- for this text's walks alone
set_option linter.unusedVariables false
set_option linter.unusedSimpArgs false

/-! ### bits_OnesCount64: function 168 -/
def bits_OnesCount64.f (a0 : Int) : Option (Int) := some (Go.bits .and .i64 (wrap64 (IntKind.u64.wrap ((IntKind.u64.wrap ((IntKind.u64.wrap ((Go.bits .and .u64 (IntKind.u64.wrap (((IntKind.u64.wrap ((Go.bits .and .u64 ((IntKind.u64.wrap ((Go.bits .and .u64 (a0 / 2) 6148914691236517205) + (Go.bits .and .u64 a0 6148914691236517205))) / 4) 3689348814741910323) + (Go.bits .and .u64 (IntKind.u64.wrap ((Go.bits .and .u64 (a0 / 2) 6148914691236517205) + (Go.bits .and .u64 a0 6148914691236517205))) 3689348814741910323))) / 16) + (IntKind.u64.wrap ((Go.bits .and .u64 ((IntKind.u64.wrap ((Go.bits .and .u64 (a0 / 2) 6148914691236517205) + (Go.bits .and .u64 a0 6148914691236517205))) / 4) 3689348814741910323) + (Go.bits .and .u64 (IntKind.u64.wrap ((Go.bits .and .u64 (a0 / 2) 6148914691236517205) + (Go.bits .and .u64 a0 6148914691236517205))) 3689348814741910323))))) 1085102592571150095) + ((Go.bits .and .u64 (IntKind.u64.wrap (((IntKind.u64.wrap ((Go.bits .and .u64 ((IntKind.u64.wrap ((Go.bits .and .u64 (a0 / 2) 6148914691236517205) + (Go.bits .and .u64 a0 6148914691236517205))) / 4) 3689348814741910323) + (Go.bits .and .u64 (IntKind.u64.wrap ((Go.bits .and .u64 (a0 / 2) 6148914691236517205) + (Go.bits .and .u64 a0 6148914691236517205))) 3689348814741910323))) / 16) + (IntKind.u64.wrap ((Go.bits .and .u64 ((IntKind.u64.wrap ((Go.bits .and .u64 (a0 / 2) 6148914691236517205) + (Go.bits .and .u64 a0 6148914691236517205))) / 4) 3689348814741910323) + (Go.bits .and .u64 (IntKind.u64.wrap ((Go.bits .and .u64 (a0 / 2) 6148914691236517205) + (Go.bits .and .u64 a0 6148914691236517205))) 3689348814741910323))))) 1085102592571150095) / 256))) + ((IntKind.u64.wrap ((Go.bits .and .u64 (IntKind.u64.wrap (((IntKind.u64.wrap ((Go.bits .and .u64 ((IntKind.u64.wrap ((Go.bits .and .u64 (a0 / 2) 6148914691236517205) + (Go.bits .and .u64 a0 6148914691236517205))) / 4) 3689348814741910323) + (Go.bits .and .u64 (IntKind.u64.wrap ((Go.bits .and .u64 (a0 / 2) 6148914691236517205) + (Go.bits .and .u64 a0 6148914691236517205))) 3689348814741910323))) / 16) + (IntKind.u64.wrap ((Go.bits .and .u64 ((IntKind.u64.wrap ((Go.bits .and .u64 (a0 / 2) 6148914691236517205) + (Go.bits .and .u64 a0 6148914691236517205))) / 4) 3689348814741910323) + (Go.bits .and .u64 (IntKind.u64.wrap ((Go.bits .and .u64 (a0 / 2) 6148914691236517205) + (Go.bits .and .u64 a0 6148914691236517205))) 3689348814741910323))))) 1085102592571150095) + ((Go.bits .and .u64 (IntKind.u64.wrap (((IntKind.u64.wrap ((Go.bits .and .u64 ((IntKind.u64.wrap ((Go.bits .and .u64 (a0 / 2) 6148914691236517205) + (Go.bits .and .u64 a0 6148914691236517205))) / 4) 3689348814741910323) + (Go.bits .and .u64 (IntKind.u64.wrap ((Go.bits .and .u64 (a0 / 2) 6148914691236517205) + (Go.bits .and .u64 a0 6148914691236517205))) 3689348814741910323))) / 16) + (IntKind.u64.wrap ((Go.bits .and .u64 ((IntKind.u64.wrap ((Go.bits .and .u64 (a0 / 2) 6148914691236517205) + (Go.bits .and .u64 a0 6148914691236517205))) / 4) 3689348814741910323) + (Go.bits .and .u64 (IntKind.u64.wrap ((Go.bits .and .u64 (a0 / 2) 6148914691236517205) + (Go.bits .and .u64 a0 6148914691236517205))) 3689348814741910323))))) 1085102592571150095) / 256))) / 65536))) + ((IntKind.u64.wrap ((IntKind.u64.wrap ((Go.bits .and .u64 (IntKind.u64.wrap (((IntKind.u64.wrap ((Go.bits .and .u64 ((IntKind.u64.wrap ((Go.bits .and .u64 (a0 / 2) 6148914691236517205) + (Go.bits .and .u64 a0 6148914691236517205))) / 4) 3689348814741910323) + (Go.bits .and .u64 (IntKind.u64.wrap ((Go.bits .and .u64 (a0 / 2) 6148914691236517205) + (Go.bits .and .u64 a0 6148914691236517205))) 3689348814741910323))) / 16) + (IntKind.u64.wrap ((Go.bits .and .u64 ((IntKind.u64.wrap ((Go.bits .and .u64 (a0 / 2) 6148914691236517205) + (Go.bits .and .u64 a0 6148914691236517205))) / 4) 3689348814741910323) + (Go.bits .and .u64 (IntKind.u64.wrap ((Go.bits .and .u64 (a0 / 2) 6148914691236517205) + (Go.bits .and .u64 a0 6148914691236517205))) 3689348814741910323))))) 1085102592571150095) + ((Go.bits .and .u64 (IntKind.u64.wrap (((IntKind.u64.wrap ((Go.bits .and .u64 ((IntKind.u64.wrap ((Go.bits .and .u64 (a0 / 2) 6148914691236517205) + (Go.bits .and .u64 a0 6148914691236517205))) / 4) 3689348814741910323) + (Go.bits .and .u64 (IntKind.u64.wrap ((Go.bits .and .u64 (a0 / 2) 6148914691236517205) + (Go.bits .and .u64 a0 6148914691236517205))) 3689348814741910323))) / 16) + (IntKind.u64.wrap ((Go.bits .and .u64 ((IntKind.u64.wrap ((Go.bits .and .u64 (a0 / 2) 6148914691236517205) + (Go.bits .and .u64 a0 6148914691236517205))) / 4) 3689348814741910323) + (Go.bits .and .u64 (IntKind.u64.wrap ((Go.bits .and .u64 (a0 / 2) 6148914691236517205) + (Go.bits .and .u64 a0 6148914691236517205))) 3689348814741910323))))) 1085102592571150095) / 256))) + ((IntKind.u64.wrap ((Go.bits .and .u64 (IntKind.u64.wrap (((IntKind.u64.wrap ((Go.bits .and .u64 ((IntKind.u64.wrap ((Go.bits .and .u64 (a0 / 2) 6148914691236517205) + (Go.bits .and .u64 a0 6148914691236517205))) / 4) 3689348814741910323) + (Go.bits .and .u64 (IntKind.u64.wrap ((Go.bits .and .u64 (a0 / 2) 6148914691236517205) + (Go.bits .and .u64 a0 6148914691236517205))) 3689348814741910323))) / 16) + (IntKind.u64.wrap ((Go.bits .and .u64 ((IntKind.u64.wrap ((Go.bits .and .u64 (a0 / 2) 6148914691236517205) + (Go.bits .and .u64 a0 6148914691236517205))) / 4) 3689348814741910323) + (Go.bits .and .u64 (IntKind.u64.wrap ((Go.bits .and .u64 (a0 / 2) 6148914691236517205) + (Go.bits .and .u64 a0 6148914691236517205))) 3689348814741910323))))) 1085102592571150095) + ((Go.bits .and .u64 (IntKind.u64.wrap (((IntKind.u64.wrap ((Go.bits .and .u64 ((IntKind.u64.wrap ((Go.bits .and .u64 (a0 / 2) 6148914691236517205) + (Go.bits .and .u64 a0 6148914691236517205))) / 4) 3689348814741910323) + (Go.bits .and .u64 (IntKind.u64.wrap ((Go.bits .and .u64 (a0 / 2) 6148914691236517205) + (Go.bits .and .u64 a0 6148914691236517205))) 3689348814741910323))) / 16) + (IntKind.u64.wrap ((Go.bits .and .u64 ((IntKind.u64.wrap ((Go.bits .and .u64 (a0 / 2) 6148914691236517205) + (Go.bits .and .u64 a0 6148914691236517205))) / 4) 3689348814741910323) + (Go.bits .and .u64 (IntKind.u64.wrap ((Go.bits .and .u64 (a0 / 2) 6148914691236517205) + (Go.bits .and .u64 a0 6148914691236517205))) 3689348814741910323))))) 1085102592571150095) / 256))) / 65536))) / 4294967296)))) 127)
set_option maxHeartbeats 8000000 in
set_option maxRecDepth 100000 in
theorem bits_OnesCount64.calls (a0 : Int) (r : Int) (w : World) (h : bits_OnesCount64.f a0 = some r) :
    Calls Tryz.prog 168 #[.int .u64 a0] w fun e w' => e = .returned (.int .i64 r) ∧ Drawn0 w w' := by
  have H : (some (Go.bits .and .i64 (wrap64 (IntKind.u64.wrap ((IntKind.u64.wrap ((IntKind.u64.wrap ((Go.bits .and .u64 (IntKind.u64.wrap (((IntKind.u64.wrap ((Go.bits .and .u64 ((IntKind.u64.wrap ((Go.bits .and .u64 (a0 / 2) 6148914691236517205) + (Go.bits .and .u64 a0 6148914691236517205))) / 4) 3689348814741910323) + (Go.bits .and .u64 (IntKind.u64.wrap ((Go.bits .and .u64 (a0 / 2) 6148914691236517205) + (Go.bits .and .u64 a0 6148914691236517205))) 3689348814741910323))) / 16) + (IntKind.u64.wrap ((Go.bits .and .u64 ((IntKind.u64.wrap ((Go.bits .and .u64 (a0 / 2) 6148914691236517205) + (Go.bits .and .u64 a0 6148914691236517205))) / 4) 3689348814741910323) + (Go.bits .and .u64 (IntKind.u64.wrap ((Go.bits .and .u64 (a0 / 2) 6148914691236517205) + (Go.bits .and .u64 a0 6148914691236517205))) 3689348814741910323))))) 1085102592571150095) + ((Go.bits .and .u64 (IntKind.u64.wrap (((IntKind.u64.wrap ((Go.bits .and .u64 ((IntKind.u64.wrap ((Go.bits .and .u64 (a0 / 2) 6148914691236517205) + (Go.bits .and .u64 a0 6148914691236517205))) / 4) 3689348814741910323) + (Go.bits .and .u64 (IntKind.u64.wrap ((Go.bits .and .u64 (a0 / 2) 6148914691236517205) + (Go.bits .and .u64 a0 6148914691236517205))) 3689348814741910323))) / 16) + (IntKind.u64.wrap ((Go.bits .and .u64 ((IntKind.u64.wrap ((Go.bits .and .u64 (a0 / 2) 6148914691236517205) + (Go.bits .and .u64 a0 6148914691236517205))) / 4) 3689348814741910323) + (Go.bits .and .u64 (IntKind.u64.wrap ((Go.bits .and .u64 (a0 / 2) 6148914691236517205) + (Go.bits .and .u64 a0 6148914691236517205))) 3689348814741910323))))) 1085102592571150095) / 256))) + ((IntKind.u64.wrap ((Go.bits .and .u64 (IntKind.u64.wrap (((IntKind.u64.wrap ((Go.bits .and .u64 ((IntKind.u64.wrap ((Go.bits .and .u64 (a0 / 2) 6148914691236517205) + (Go.bits .and .u64 a0 6148914691236517205))) / 4) 3689348814741910323) + (Go.bits .and .u64 (IntKind.u64.wrap ((Go.bits .and .u64 (a0 / 2) 6148914691236517205) + (Go.bits .and .u64 a0 6148914691236517205))) 3689348814741910323))) / 16) + (IntKind.u64.wrap ((Go.bits .and .u64 ((IntKind.u64.wrap ((Go.bits .and .u64 (a0 / 2) 6148914691236517205) + (Go.bits .and .u64 a0 6148914691236517205))) / 4) 3689348814741910323) + (Go.bits .and .u64 (IntKind.u64.wrap ((Go.bits .and .u64 (a0 / 2) 6148914691236517205) + (Go.bits .and .u64 a0 6148914691236517205))) 3689348814741910323))))) 1085102592571150095) + ((Go.bits .and .u64 (IntKind.u64.wrap (((IntKind.u64.wrap ((Go.bits .and .u64 ((IntKind.u64.wrap ((Go.bits .and .u64 (a0 / 2) 6148914691236517205) + (Go.bits .and .u64 a0 6148914691236517205))) / 4) 3689348814741910323) + (Go.bits .and .u64 (IntKind.u64.wrap ((Go.bits .and .u64 (a0 / 2) 6148914691236517205) + (Go.bits .and .u64 a0 6148914691236517205))) 3689348814741910323))) / 16) + (IntKind.u64.wrap ((Go.bits .and .u64 ((IntKind.u64.wrap ((Go.bits .and .u64 (a0 / 2) 6148914691236517205) + (Go.bits .and .u64 a0 6148914691236517205))) / 4) 3689348814741910323) + (Go.bits .and .u64 (IntKind.u64.wrap ((Go.bits .and .u64 (a0 / 2) 6148914691236517205) + (Go.bits .and .u64 a0 6148914691236517205))) 3689348814741910323))))) 1085102592571150095) / 256))) / 65536))) + ((IntKind.u64.wrap ((IntKind.u64.wrap ((Go.bits .and .u64 (IntKind.u64.wrap (((IntKind.u64.wrap ((Go.bits .and .u64 ((IntKind.u64.wrap ((Go.bits .and .u64 (a0 / 2) 6148914691236517205) + (Go.bits .and .u64 a0 6148914691236517205))) / 4) 3689348814741910323) + (Go.bits .and .u64 (IntKind.u64.wrap ((Go.bits .and .u64 (a0 / 2) 6148914691236517205) + (Go.bits .and .u64 a0 6148914691236517205))) 3689348814741910323))) / 16) + (IntKind.u64.wrap ((Go.bits .and .u64 ((IntKind.u64.wrap ((Go.bits .and .u64 (a0 / 2) 6148914691236517205) + (Go.bits .and .u64 a0 6148914691236517205))) / 4) 3689348814741910323) + (Go.bits .and .u64 (IntKind.u64.wrap ((Go.bits .and .u64 (a0 / 2) 6148914691236517205) + (Go.bits .and .u64 a0 6148914691236517205))) 3689348814741910323))))) 1085102592571150095) + ((Go.bits .and .u64 (IntKind.u64.wrap (((IntKind.u64.wrap ((Go.bits .and .u64 ((IntKind.u64.wrap ((Go.bits .and .u64 (a0 / 2) 6148914691236517205) + (Go.bits .and .u64 a0 6148914691236517205))) / 4) 3689348814741910323) + (Go.bits .and .u64 (IntKind.u64.wrap ((Go.bits .and .u64 (a0 / 2) 6148914691236517205) + (Go.bits .and .u64 a0 6148914691236517205))) 3689348814741910323))) / 16) + (IntKind.u64.wrap ((Go.bits .and .u64 ((IntKind.u64.wrap ((Go.bits .and .u64 (a0 / 2) 6148914691236517205) + (Go.bits .and .u64 a0 6148914691236517205))) / 4) 3689348814741910323) + (Go.bits .and .u64 (IntKind.u64.wrap ((Go.bits .and .u64 (a0 / 2) 6148914691236517205) + (Go.bits .and .u64 a0 6148914691236517205))) 3689348814741910323))))) 1085102592571150095) / 256))) + ((IntKind.u64.wrap ((Go.bits .and .u64 (IntKind.u64.wrap (((IntKind.u64.wrap ((Go.bits .and .u64 ((IntKind.u64.wrap ((Go.bits .and .u64 (a0 / 2) 6148914691236517205) + (Go.bits .and .u64 a0 6148914691236517205))) / 4) 3689348814741910323) + (Go.bits .and .u64 (IntKind.u64.wrap ((Go.bits .and .u64 (a0 / 2) 6148914691236517205) + (Go.bits .and .u64 a0 6148914691236517205))) 3689348814741910323))) / 16) + (IntKind.u64.wrap ((Go.bits .and .u64 ((IntKind.u64.wrap ((Go.bits .and .u64 (a0 / 2) 6148914691236517205) + (Go.bits .and .u64 a0 6148914691236517205))) / 4) 3689348814741910323) + (Go.bits .and .u64 (IntKind.u64.wrap ((Go.bits .and .u64 (a0 / 2) 6148914691236517205) + (Go.bits .and .u64 a0 6148914691236517205))) 3689348814741910323))))) 1085102592571150095) + ((Go.bits .and .u64 (IntKind.u64.wrap (((IntKind.u64.wrap ((Go.bits .and .u64 ((IntKind.u64.wrap ((Go.bits .and .u64 (a0 / 2) 6148914691236517205) + (Go.bits .and .u64 a0 6148914691236517205))) / 4) 3689348814741910323) + (Go.bits .and .u64 (IntKind.u64.wrap ((Go.bits .and .u64 (a0 / 2) 6148914691236517205) + (Go.bits .and .u64 a0 6148914691236517205))) 3689348814741910323))) / 16) + (IntKind.u64.wrap ((Go.bits .and .u64 ((IntKind.u64.wrap ((Go.bits .and .u64 (a0 / 2) 6148914691236517205) + (Go.bits .and .u64 a0 6148914691236517205))) / 4) 3689348814741910323) + (Go.bits .and .u64 (IntKind.u64.wrap ((Go.bits .and .u64 (a0 / 2) 6148914691236517205) + (Go.bits .and .u64 a0 6148914691236517205))) 3689348814741910323))))) 1085102592571150095) / 256))) / 65536))) / 4294967296)))) 127)) = some r := h
  clear h
  obtain rfl := Option.some.inj H
  go_enter Tryz.func168, Tryz.ntmps168
  go_wp2
  go_ret
  exact ⟨by first | rfl | (simp; done) | (simp [*]; done), by repeat (first | exact Drawn0.refl _ | apply Drawn0.step)⟩

/-! ### bits_OnesCount: function 155 -/
def bits_OnesCount.f (a0 : Int) : Option (Int) := (bits_OnesCount64.f a0).bind fun t143 => (some t143)
set_option maxHeartbeats 8000000 in
set_option maxRecDepth 100000 in
theorem bits_OnesCount.calls (a0 : Int) (r : Int) (w : World) (h : bits_OnesCount.f a0 = some r) :
    Calls Tryz.prog 155 #[.int .u64 a0] w fun e w' => e = .returned (.int .i64 r) ∧ Drawn0 w w' := by
  have H : ((bits_OnesCount64.f a0).bind fun t143 => (some t143)) = some r := h
  clear h
  replace H := Option.bind_eq_some_iff.mp H
  obtain ⟨t143, A20, H⟩ := H
  replace H : (some t143) = some r := H
  have A2 := Aside0.mk A20
  clear A20
  obtain rfl := Option.some.inj H
  go_enter Tryz.func155, Tryz.ntmps155
  go_wp2_with (first | ((with_reducible refine gate_callee (f := 168) rfl ?_); refine goesL_ (some 7) rfl rfl Tryz.func168 (by kernel_rfl) rfl #[.int .u64 a0] rfl (by (try simp only [List.map_toArray, List.map_cons, List.map_nil]); first | done | rfl | (simp only [List.length_drop, List.length_take]; rfl)) ?_; (with_reducible refine (bits_OnesCount64.calls a0 t143 _ A2.out).mono ?_); rintro e w' ⟨rfl, ⟨nd, rfl⟩⟩; refine ⟨_, rfl, ?_⟩))
  go_ret
  exact ⟨by first | rfl | (simp; done) | (simp [*]; done), by repeat (first | exact Drawn0.refl _ | apply Drawn0.step)⟩

/-! ### decoder_FormatInformation_NumBitsDiffering: function 128 -/
def decoder_FormatInformation_NumBitsDiffering.f (a0 : Int) (a1 : Int) : Option (Int) := (bits_OnesCount.f (Go.bits .xor .u64 a0 a1)).bind fun t144 => (some t144)
set_option maxHeartbeats 8000000 in
set_option maxRecDepth 100000 in
theorem decoder_FormatInformation_NumBitsDiffering.calls (a0 : Int) (a1 : Int) (r : Int) (w : World) (h : decoder_FormatInformation_NumBitsDiffering.f a0 a1 = some r) :
    Calls Tryz.prog 128 #[.int .u64 a0, .int .u64 a1] w fun e w' => e = .returned (.int .i64 r) ∧ Drawn0 w w' := by
  have H : ((bits_OnesCount.f (Go.bits .xor .u64 a0 a1)).bind fun t144 => (some t144)) = some r := h
  clear h
  replace H := Option.bind_eq_some_iff.mp H
  obtain ⟨t144, A30, H⟩ := H
  replace H : (some t144) = some r := H
  have A3 := Aside0.mk A30
  clear A30
  obtain rfl := Option.some.inj H
  go_enter Tryz.func128, Tryz.ntmps128
  go_wp2_with (first | ((with_reducible refine gate_callee (f := 155) rfl ?_); refine goesL_ (some 8) rfl rfl Tryz.func155 (by kernel_rfl) rfl #[.int .u64 (Go.bits .xor .u64 a0 a1)] rfl (by (try simp only [List.map_toArray, List.map_cons, List.map_nil]); first | done | rfl | (simp only [List.length_drop, List.length_take]; rfl)) ?_; (with_reducible refine (bits_OnesCount.calls (Go.bits .xor .u64 a0 a1) t144 _ A3.out).mono ?_); rintro e w' ⟨rfl, ⟨nd, rfl⟩⟩; refine ⟨_, rfl, ?_⟩))
  go_ret
  exact ⟨by first | rfl | (simp; done) | (simp [*]; done), by repeat (first | exact Drawn0.refl _ | apply Drawn0.step)⟩

-- NOT PRINTED: function 85 (decoder_Version_decodeVersionInformation)

/-- A state of type 154 at block g of W; what its slices lead to came in by w0. -/
def IsS154 (w0 W : World) (g : Nat) (f0 : Int) (f1 : List Int) (f2 : List (S224)) (f3 : Int) : Prop := ∃ A1 c1, ∃ A2 c2, W.heap[g]? = some (.cells #[.int .i64 f0, .slice A1 f1.length c1, .slice A2 f2.length c2, .int .i64 f3] 154 (0, 0)) ∧ w0.heap.size ≤ g ∧ Kd.C (Kd.int .i64) w0 A1 f1.length f1 ∧ Kd.C k224 w0 A2 f2.length f2
theorem IsS154.grown {w0 W : World} {g : Nat} {f0 : Int} {f1 : List Int} {f2 : List (S224)} {f3 : Int} {W1 : World} {row : Option Nat} (h : IsS154 w0 W g f0 f1 f2 f3) (hw : W.grownBy W1 row) (hne : some g ≠ row) : IsS154 w0 W1 g f0 f1 f2 f3 := by
  obtain ⟨A1, c1, A2, c2, hb, hg, hr1, hr2⟩ := h
  exact ⟨A1, c1, A2, c2, blk_grown hb hw hne, hg, hr1, hr2⟩
theorem IsS154.own_neN {w0 W : World} {g : Nat} {f0 : Int} {f1 : List Int} {f2 : List (S224)} {f3 : Int} {α : Type} {d : Kd α} {e : Nat} {base : Nat} {ok : Nat → Prop} {v : Value} {xs : List α} (h : IsS154 w0 W g f0 f1 f2 f3) (ho : Kd.N d e W base ok v xs) (ht : e ≠ 154) : some g ≠ v.ownBlock := by
  obtain ⟨A1, c1, A2, c2, hb, hg, hr1, hr2⟩ := h
  exact Kd.N_ne ho hb ht
theorem IsS154.fresh {w0 W : World} {g : Nat} {f0 : Int} {f1 : List Int} {f2 : List (S224)} {f3 : Int} (h : IsS154 w0 W g f0 f1 f2 f3) : ∀ k, W.heap.size ≤ k → k ≠ g := by
  obtain ⟨A1, c1, A2, c2, hb, hg, hr1, hr2⟩ := h
  exact Kd.freshB hb
theorem IsS154.kept {w0 W : World} {g : Nat} {f0 : Int} {f1 : List Int} {f2 : List (S224)} {f3 : Int} {W1 : World} {S : Nat → Prop} (h : IsS154 w0 W g f0 f1 f2 f3) (hk : Kept W W1 S) (hne : ¬ S g) : IsS154 w0 W1 g f0 f1 f2 f3 := by
  obtain ⟨A1, c1, A2, c2, hb, hg, hr1, hr2⟩ := h
  exact ⟨A1, c1, A2, c2, blk_kept hb hk hne, hg, hr1, hr2⟩
theorem IsS154.below {w0 W : World} {g : Nat} {f0 : Int} {f1 : List Int} {f2 : List (S224)} {f3 : Int} {W1 : World} (h : IsS154 w0 W g f0 f1 f2 f3) (hw : Below W.heap.size W W1) : IsS154 w0 W1 g f0 f1 f2 f3 := h.grown (grown_of_below hw none) (by simp)
theorem IsS154.alloc {w0 W : World} {g : Nat} {f0 : Int} {f1 : List Int} {f2 : List (S224)} {f3 : Int} (h : IsS154 w0 W g f0 f1 f2 f3) (o : Obj) : IsS154 w0 (W.alloc o) g f0 f1 f2 f3 := h.below (below_alloc (Below.refl _ _) o)
theorem IsS154.drewN {w0 W : World} {g : Nat} {f0 : Int} {f1 : List Int} {f2 : List (S224)} {f3 : Int} (h : IsS154 w0 W g f0 f1 f2 f3) (m : Nat) : IsS154 w0 (W.drewN m) g f0 f1 f2 f3 := h
theorem IsS154.drew {w0 W : World} {g : Nat} {f0 : Int} {f1 : List Int} {f2 : List (S224)} {f3 : Int} (h : IsS154 w0 W g f0 f1 f2 f3) : IsS154 w0 W.drew g f0 f1 f2 f3 := h
theorem IsS154.at_ {w0 W : World} {g : Nat} {f0 : Int} {f1 : List Int} {f2 : List (S224)} {f3 : Int} {w' : World} {m : Nat} (hq : W.drewN m = w') (h : IsS154 w0 W g f0 f1 f2 f3) : IsS154 w0 w' g f0 f1 f2 f3 := by subst hq; exact IsS154.drewN h m
theorem IsS154.apart {w0 W : World} {g : Nat} {f0 : Int} {f1 : List Int} {f2 : List (S224)} {f3 : Int} {α : Type} {d : Kd α} {e : Nat} {base : Nat} {ok : Nat → Prop} {v : Value} {xs : List α} (h : IsS154 w0 W g f0 f1 f2 f3) (ho : d.R e W base ok v xs) (ht : ∀ q, q ∈ e :: d.E → q ≠ 154) : d.R e W base (fun k => ok k ∧ k ≠ g) v xs := by
  obtain ⟨A1, c1, A2, c2, hb, hg, hr1, hr2⟩ := h
  exact Kd.R_types ho hb ht
theorem IsS154.own_ne {w0 W : World} {g : Nat} {f0 : Int} {f1 : List Int} {f2 : List (S224)} {f3 : Int} {α : Type} {d : Kd α} {e : Nat} {base : Nat} {ok : Nat → Prop} {v : Value} {xs : List α} (h : IsS154 w0 W g f0 f1 f2 f3) (ho : d.R e W base ok v xs) (ht : e ≠ 154) : some g ≠ v.ownBlock := by
  obtain ⟨A1, c1, A2, c2, hb, hg, hr1, hr2⟩ := h
  exact Kd.R_ne ho hb ht
theorem IsS154.apartQ {w0 W : World} {g : Nat} {f0 : Int} {f1 : List Int} {f2 : List (S224)} {f3 : Int} {α : Type} {d : Kd α} {e : Nat} {base : Nat} {ok : Nat → Prop} {v : Value} {xs : List α} (h : IsS154 w0 W g f0 f1 f2 f3) (ho : d.Q e W base ok v xs) (ht : ∀ q, q ∈ e :: d.E → q ≠ 154) : d.Q e W base (fun k => ok k ∧ k ≠ g) v xs := by
  obtain ⟨A1, c1, A2, c2, hb, hg, hr1, hr2⟩ := h
  exact Kd.Q_types ho hb ht
theorem IsS154.own_neQ {w0 W : World} {g : Nat} {f0 : Int} {f1 : List Int} {f2 : List (S224)} {f3 : Int} {α : Type} {d : Kd α} {e : Nat} {base : Nat} {ok : Nat → Prop} {v : Value} {xs : List α} (h : IsS154 w0 W g f0 f1 f2 f3) (ho : d.Q e W base ok v xs) (ht : e ≠ 154) : some g ≠ v.ownBlock := by
  obtain ⟨A1, c1, A2, c2, hb, hg, hr1, hr2⟩ := h
  exact Kd.Q_ne ho hb ht
theorem IsS154.apartS {w0 W : World} {g : Nat} {f0 : Int} {f1 : List Int} {f2 : List (S224)} {f3 : Int} {α : Type} {d : Kd α} {e : Nat} {base : Nat} {ok : Nat → Prop} {v : Value} {xs : List α} (h : IsS154 w0 W g f0 f1 f2 f3) (ho : d.S e W base ok v xs) (ht : ∀ q, q ∈ e :: d.E → q ≠ 154) : d.S e W base (fun k => ok k ∧ k ≠ g) v xs := by
  obtain ⟨A1, c1, A2, c2, hb, hg, hr1, hr2⟩ := h
  exact Kd.S_types ho hb ht
theorem IsS154.own_neS {w0 W : World} {g : Nat} {f0 : Int} {f1 : List Int} {f2 : List (S224)} {f3 : Int} {α : Type} {d : Kd α} {e : Nat} {base : Nat} {ok : Nat → Prop} {v : Value} {xs : List α} (h : IsS154 w0 W g f0 f1 f2 f3) (ho : d.S e W base ok v xs) (ht : e ≠ 154) : some g ≠ v.ownBlock := by
  obtain ⟨A1, c1, A2, c2, hb, hg, hr1, hr2⟩ := h
  exact Kd.S_ne ho hb ht
theorem IsS154.lt {w0 W : World} {g : Nat} {f0 : Int} {f1 : List Int} {f2 : List (S224)} {f3 : Int} (h : IsS154 w0 W g f0 f1 f2 f3) : g < W.heap.size := by
  obtain ⟨A1, c1, A2, c2, hb, hg, hr1, hr2⟩ := h
  exact blk_lt hb
theorem IsS154.ge {w0 W : World} {g : Nat} {f0 : Int} {f1 : List Int} {f2 : List (S224)} {f3 : Int} (h : IsS154 w0 W g f0 f1 f2 f3) : w0.heap.size ≤ g := by
  obtain ⟨A1, c1, A2, c2, hb, hg, hr1, hr2⟩ := h
  exact hg
theorem IsS154.ne_blk {w0 W : World} {g : Nat} {f0 : Int} {f1 : List Int} {f2 : List (S224)} {f3 : Int} {a : Nat} {cs : Array Value} {t : TypeId} {fr : Nat × Nat} (h : IsS154 w0 W g f0 f1 f2 f3) (hb2 : W.heap[a]? = some (.cells cs t fr)) (ht : t ≠ 154) : g ≠ a := by
  obtain ⟨A1, c1, A2, c2, hb, hg, hr1, hr2⟩ := h
  rintro rfl
  rw [hb] at hb2
  injection hb2 with hb2
  injection hb2 with _ ht2
  exact ht ht2.symm
theorem IsS154.far {w0 W : World} {g : Nat} {f0 : Int} {f1 : List Int} {f2 : List (S224)} {f3 : Int} {p : Addr} (h : IsS154 w0 W g f0 f1 f2 f3) (hne : g ≠ p.block) (u : Value) : IsS154 w0 (W.setCell p u) g f0 f1 f2 f3 := by
  obtain ⟨A1, c1, A2, c2, hb, hg, hr1, hr2⟩ := h
  exact ⟨A1, c1, A2, c2, blk_far hb hne u, hg, hr1, hr2⟩
theorem cellS154_0 {W : World} {g : Nat} {A1 : Option Addr} {c1 : Nat} {A2 : Option Addr} {c2 : Nat} {f0 : Int} {f1 : List Int} {f2 : List (S224)} {f3 : Int} (h : W.heap[g]? = some (.cells #[.int .i64 f0, .slice A1 f1.length c1, .slice A2 f2.length c2, .int .i64 f3] 154 (0, 0))) : W.cell? ⟨g, 0, none⟩ = some (.int .i64 f0) := (blk_cell h 0).trans rfl
theorem IsS154.set_0 {w0 W : World} {g : Nat} {f0 : Int} {f1 : List Int} {f2 : List (S224)} {f3 : Int} (h : IsS154 w0 W g f0 f1 f2 f3) (x : Int) : IsS154 w0 (W.setCell ⟨g, 0, none⟩ (.int .i64 x)) g x f1 f2 f3 := by
  obtain ⟨A1, c1, A2, c2, hb, hg, hr1, hr2⟩ := h
  exact ⟨A1, c1, A2, c2, by simpa using blk_set hb 0 (.int .i64 x), hg, hr1, hr2⟩
theorem cellS154_1 {W : World} {g : Nat} {A1 : Option Addr} {c1 : Nat} {A2 : Option Addr} {c2 : Nat} {f0 : Int} {f1 : List Int} {f2 : List (S224)} {f3 : Int} (h : W.heap[g]? = some (.cells #[.int .i64 f0, .slice A1 f1.length c1, .slice A2 f2.length c2, .int .i64 f3] 154 (0, 0))) : W.cell? ⟨g, 1, none⟩ = some (.slice A1 f1.length c1) := (blk_cell h 1).trans rfl
theorem cellS154_2 {W : World} {g : Nat} {A1 : Option Addr} {c1 : Nat} {A2 : Option Addr} {c2 : Nat} {f0 : Int} {f1 : List Int} {f2 : List (S224)} {f3 : Int} (h : W.heap[g]? = some (.cells #[.int .i64 f0, .slice A1 f1.length c1, .slice A2 f2.length c2, .int .i64 f3] 154 (0, 0))) : W.cell? ⟨g, 2, none⟩ = some (.slice A2 f2.length c2) := (blk_cell h 2).trans rfl
theorem cellS154_3 {W : World} {g : Nat} {A1 : Option Addr} {c1 : Nat} {A2 : Option Addr} {c2 : Nat} {f0 : Int} {f1 : List Int} {f2 : List (S224)} {f3 : Int} (h : W.heap[g]? = some (.cells #[.int .i64 f0, .slice A1 f1.length c1, .slice A2 f2.length c2, .int .i64 f3] 154 (0, 0))) : W.cell? ⟨g, 3, none⟩ = some (.int .i64 f3) := (blk_cell h 3).trans rfl
theorem IsS154.set_3 {w0 W : World} {g : Nat} {f0 : Int} {f1 : List Int} {f2 : List (S224)} {f3 : Int} (h : IsS154 w0 W g f0 f1 f2 f3) (x : Int) : IsS154 w0 (W.setCell ⟨g, 3, none⟩ (.int .i64 x)) g f0 f1 f2 x := by
  obtain ⟨A1, c1, A2, c2, hb, hg, hr1, hr2⟩ := h
  exact ⟨A1, c1, A2, c2, by simpa using blk_set hb 3 (.int .i64 x), hg, hr1, hr2⟩
theorem IsS154.new (w0 W : World) (A1 : Option Addr) (c1 : Nat) (A2 : Option Addr) (c2 : Nat) (f0 : Int) (f1 : List Int) (f2 : List (S224)) (f3 : Int) (hB : Below w0.heap.size w0 W) (hr1 : Kd.C (Kd.int .i64) w0 A1 f1.length f1) (hr2 : Kd.C k224 w0 A2 f2.length f2) : IsS154 w0 (W.alloc (.cells #[.int .i64 f0, .slice A1 f1.length c1, .slice A2 f2.length c2, .int .i64 f3] 154)) W.heap.size f0 f1 f2 f3 := ⟨A1, c1, A2, c2, by simpa using heap_alloc_new W _, hB.size, hr1, hr2⟩

/-! ### decoder_VERSION_DECODE_INFO: function 127 -/
def decoder_VERSION_DECODE_INFO.f  : Option (List Int) := some (([31892, 34236, 39577, 42195, 48118, 51042, 55367, 58893, 63784, 68472, 70749, 76311, 79154, 84390, 87683, 92361, 96236, 102084, 102881, 110507, 110734, 117786, 119615, 126325, 127568, 133589, 136944, 141498, 145311, 150283, 152622, 158308, 161089, 167017] : List Int))
set_option maxHeartbeats 8000000 in
set_option maxRecDepth 100000 in
theorem decoder_VERSION_DECODE_INFO.calls  (r : List Int) (w : World) (h : decoder_VERSION_DECODE_INFO.f  = some r) :
    Calls Tryz.prog 127 #[] w fun e w' => ∃ v0_ : Value, e = .returned (v0_) ∧ Kd.R (Kd.int .i64) 3 w' w.heap.size (fun _ => True) v0_ r ∧ Below w.heap.size w w' := by
  have HB := Aside0.mk (Below.refl w.heap.size w)
  have H : (some (([31892, 34236, 39577, 42195, 48118, 51042, 55367, 58893, 63784, 68472, 70749, 76311, 79154, 84390, 87683, 92361, 96236, 102084, 102881, 110507, 110734, 117786, 119615, 126325, 127568, 133589, 136944, 141498, 145311, 150283, 152622, 158308, 161089, 167017] : List Int))) = some r := h
  clear h
  obtain ⟨y140, hy140⟩ : ∃ y_ : List Int, y_ = (([31892, 34236, 39577, 42195, 48118, 51042, 55367, 58893, 63784, 68472, 70749, 76311, 79154, 84390, 87683, 92361, 96236, 102084, 102881, 110507, 110734, 117786, 119615, 126325, 127568, 133589, 136944, 141498, 145311, 150283, 152622, 158308, 161089, 167017] : List Int)) := ⟨_, rfl⟩
  replace H : (some y140) = some r := by first | (rw [hy140]; with_reducible exact H) | (have H2_ := (Option.bind_some _ _).symm.trans H; rw [hy140]; with_reducible exact H2_) | (have H2_ := (Option.bind_some _ _).symm.trans H; with_reducible exact H2_) | with_reducible exact H | (rw [hy140]; exact H) | exact H
  have Ny140 := Aside0.mk hy140
  clear hy140
  obtain rfl := Option.some.inj H
  go_enter Tryz.func127, Tryz.ntmps127
  go_wp2_with (first | ((with_reducible refine gate_dst (N := 1) rfl ?_); refine Kd.R_lit (Kd.int .i64) _ 3 ?hg (N := 1) ?hd (xs := ([31892, 34236, 39577, 42195, 48118, 51042, 55367, 58893, 63784, 68472, 70749, 76311, 79154, 84390, 87683, 92361, 96236, 102084, 102881, 110507, 110734, 117786, 119615, 126325, 127568, 133589, 136944, 141498, 145311, 150283, 152622, 158308, 161089, 167017] : List Int)) (inner := [.int .i64 31892, .int .i64 34236, .int .i64 39577, .int .i64 42195, .int .i64 48118, .int .i64 51042, .int .i64 55367, .int .i64 58893, .int .i64 63784, .int .i64 68472, .int .i64 70749, .int .i64 76311, .int .i64 79154, .int .i64 84390, .int .i64 87683, .int .i64 92361, .int .i64 96236, .int .i64 102084, .int .i64 102881, .int .i64 110507, .int .i64 110734, .int .i64 117786, .int .i64 119615, .int .i64 126325, .int .i64 127568, .int .i64 133589, .int .i64 136944, .int .i64 141498, .int .i64 145311, .int .i64 150283, .int .i64 152622, .int .i64 158308, .int .i64 161089, .int .i64 167017]) (ok := fun _ => True) (okp := fun _ => True) ?hr ?hp (fun _ hk => hk) trivial (Below.refl _ _) (Nat.le_refl _) (by simp) ?_; (case hd => rfl); (case hg => rfl); (case hr => first | (go_simp; done) | (go_simp; rfl)); (case hp => exact (Reps.one (show Kd.M (Kd.int .i64) _ _ _ 31892 [.int .i64 31892] from rfl) (Reps.one (show Kd.M (Kd.int .i64) _ _ _ 34236 [.int .i64 34236] from rfl) (Reps.one (show Kd.M (Kd.int .i64) _ _ _ 39577 [.int .i64 39577] from rfl) (Reps.one (show Kd.M (Kd.int .i64) _ _ _ 42195 [.int .i64 42195] from rfl) (Reps.one (show Kd.M (Kd.int .i64) _ _ _ 48118 [.int .i64 48118] from rfl) (Reps.one (show Kd.M (Kd.int .i64) _ _ _ 51042 [.int .i64 51042] from rfl) (Reps.one (show Kd.M (Kd.int .i64) _ _ _ 55367 [.int .i64 55367] from rfl) (Reps.one (show Kd.M (Kd.int .i64) _ _ _ 58893 [.int .i64 58893] from rfl) (Reps.one (show Kd.M (Kd.int .i64) _ _ _ 63784 [.int .i64 63784] from rfl) (Reps.one (show Kd.M (Kd.int .i64) _ _ _ 68472 [.int .i64 68472] from rfl) (Reps.one (show Kd.M (Kd.int .i64) _ _ _ 70749 [.int .i64 70749] from rfl) (Reps.one (show Kd.M (Kd.int .i64) _ _ _ 76311 [.int .i64 76311] from rfl) (Reps.one (show Kd.M (Kd.int .i64) _ _ _ 79154 [.int .i64 79154] from rfl) (Reps.one (show Kd.M (Kd.int .i64) _ _ _ 84390 [.int .i64 84390] from rfl) (Reps.one (show Kd.M (Kd.int .i64) _ _ _ 87683 [.int .i64 87683] from rfl) (Reps.one (show Kd.M (Kd.int .i64) _ _ _ 92361 [.int .i64 92361] from rfl) (Reps.one (show Kd.M (Kd.int .i64) _ _ _ 96236 [.int .i64 96236] from rfl) (Reps.one (show Kd.M (Kd.int .i64) _ _ _ 102084 [.int .i64 102084] from rfl) (Reps.one (show Kd.M (Kd.int .i64) _ _ _ 102881 [.int .i64 102881] from rfl) (Reps.one (show Kd.M (Kd.int .i64) _ _ _ 110507 [.int .i64 110507] from rfl) (Reps.one (show Kd.M (Kd.int .i64) _ _ _ 110734 [.int .i64 110734] from rfl) (Reps.one (show Kd.M (Kd.int .i64) _ _ _ 117786 [.int .i64 117786] from rfl) (Reps.one (show Kd.M (Kd.int .i64) _ _ _ 119615 [.int .i64 119615] from rfl) (Reps.one (show Kd.M (Kd.int .i64) _ _ _ 126325 [.int .i64 126325] from rfl) (Reps.one (show Kd.M (Kd.int .i64) _ _ _ 127568 [.int .i64 127568] from rfl) (Reps.one (show Kd.M (Kd.int .i64) _ _ _ 133589 [.int .i64 133589] from rfl) (Reps.one (show Kd.M (Kd.int .i64) _ _ _ 136944 [.int .i64 136944] from rfl) (Reps.one (show Kd.M (Kd.int .i64) _ _ _ 141498 [.int .i64 141498] from rfl) (Reps.one (show Kd.M (Kd.int .i64) _ _ _ 145311 [.int .i64 145311] from rfl) (Reps.one (show Kd.M (Kd.int .i64) _ _ _ 150283 [.int .i64 150283] from rfl) (Reps.one (show Kd.M (Kd.int .i64) _ _ _ 152622 [.int .i64 152622] from rfl) (Reps.one (show Kd.M (Kd.int .i64) _ _ _ 158308 [.int .i64 158308] from rfl) (Reps.one (show Kd.M (Kd.int .i64) _ _ _ 161089 [.int .i64 161089] from rfl) (Reps.one (show Kd.M (Kd.int .i64) _ _ _ 167017 [.int .i64 167017] from rfl) (Reps.none _ _)))))))))))))))))))))))))))))))))))); intro v141 w1 ho2 hb hg_ hnew_; clear hg_ hnew_; (first | rw [← Ny140.out] at ho2 | (simp only [Int.reduceToNat] at ho2; rw [← Ny140.out] at ho2)); have n0_ := Aside0.mk (Kd.R_lower ho2 (below_size (by repeat (first | (with_reducible first | exact HB.out | apply below_alloc | apply pw_below_drewN | apply below_drew1) | exact HB.out)))); have n1_ := Aside0.mk (below_step (by repeat (first | (with_reducible first | exact HB.out | apply below_alloc | apply pw_below_drewN | apply below_drew1) | exact HB.out)) hb); clear HB; have HO142 := n0_; have HB := n1_; clear n0_ n1_; clear hb ho2))
  go_ret
  exact ⟨_, by first | rfl | (simp [errW_none, errW_some] <;> rfl) | (simp [*, errW_none, errW_some] <;> rfl), by (with_reducible repeat (first | apply Kd.R_alloc | apply Kd.R_drewN | apply Kd.R_drew)); exact HO142.out, by repeat (first | (with_reducible first | exact HB.out | apply below_alloc | apply pw_below_drewN | apply below_drew1) | exact HB.out)⟩

/-! ### spec_QRDimension: function 46 -/
def spec_QRDimension.f (a0 : Int) : Option (Int) := some (wrap64 (17 + (wrap64 (4 * a0))))
set_option maxHeartbeats 8000000 in
set_option maxRecDepth 100000 in
theorem spec_QRDimension.calls (a0 : Int) (r : Int) (w : World) (h : spec_QRDimension.f a0 = some r) :
    Calls Tryz.prog 46 #[.int .i64 a0] w fun e w' => e = .returned (.int .i64 r) ∧ Drawn0 w w' := by
  have H : (some (wrap64 (17 + (wrap64 (4 * a0))))) = some r := h
  clear h
  obtain rfl := Option.some.inj H
  go_enter Tryz.func46, Tryz.ntmps46
  go_wp2
  go_ret
  exact ⟨by first | rfl | (simp; done) | (simp [*]; done), by repeat (first | exact Drawn0.refl _ | apply Drawn0.step)⟩

/-! ### spec_qrFar: function 98 -/
def spec_qrFar.f (a0 : Int) (a1 : Int) (a2 : Int) (a3 : Int) : Option (Int) := some (mx (mx (wrap64 (a0 - a2)) (wrap64 (a2 - a0))) (mx (wrap64 (a1 - a3)) (wrap64 (a3 - a1))))
set_option maxHeartbeats 8000000 in
set_option maxRecDepth 100000 in
theorem spec_qrFar.calls (a0 : Int) (a1 : Int) (a2 : Int) (a3 : Int) (r : Int) (w : World) (h : spec_qrFar.f a0 a1 a2 a3 = some r) :
    Calls Tryz.prog 98 #[.int .i64 a0, .int .i64 a1, .int .i64 a2, .int .i64 a3] w fun e w' => e = .returned (.int .i64 r) ∧ Below w.heap.size w w' := by
  have HB := Aside0.mk (Below.refl w.heap.size w)
  have H : (some (mx (mx (wrap64 (a0 - a2)) (wrap64 (a2 - a0))) (mx (wrap64 (a1 - a3)) (wrap64 (a3 - a1))))) = some r := h
  clear h
  obtain ⟨ji5, hji5⟩ : ∃ j_ : Int, (mx (wrap64 (a0 - a2)) (wrap64 (a2 - a0))) = j_ := ⟨_, rfl⟩
  replace H : (some (mx (ji5) (mx (wrap64 (a1 - a3)) (wrap64 (a3 - a1))))) = some r := by first | (rw [hji5] at H; exact H) | (simp only [hji5] at H ⊢; exact H)
  have hji5_ : (if (wrap64 (a0 - a2)) < (wrap64 (a2 - a0)) then (wrap64 (a2 - a0)) else (wrap64 (a0 - a2))) = ji5 := hji5
  obtain ⟨ji6, hji6⟩ : ∃ j_ : Int, (mx (wrap64 (a1 - a3)) (wrap64 (a3 - a1))) = j_ := ⟨_, rfl⟩
  replace H : (some (mx (ji5) (ji6))) = some r := by first | (rw [hji6] at H; exact H) | (simp only [hji6] at H ⊢; exact H)
  have hji6_ : (if (wrap64 (a1 - a3)) < (wrap64 (a3 - a1)) then (wrap64 (a3 - a1)) else (wrap64 (a1 - a3))) = ji6 := hji6
  obtain ⟨ji7, hji7⟩ : ∃ j_ : Int, (mx (ji5) (ji6)) = j_ := ⟨_, rfl⟩
  replace H : (some ji7) = some r := by first | (rw [hji7] at H; exact H) | (simp only [hji7] at H ⊢; exact H)
  have hji7_ : (if (ji5) < (ji6) then (ji6) else (ji5)) = ji7 := hji7
  obtain rfl := Option.some.inj H
  go_enter Tryz.func98, Tryz.ntmps98
  go_wp2
  go_ret
  exact ⟨by first | rfl | (simp [errW_none, errW_some] <;> rfl) | (simp only [← hji5, ← hji6, ← hji7]; first | rfl | (simp [errW_none, errW_some] <;> rfl)) | (simp [*, errW_none, errW_some] <;> rfl), by repeat (first | (with_reducible first | exact HB.out | apply below_alloc | apply pw_below_drewN | apply below_drew1) | exact HB.out)⟩

/-! ### spec_qrAlign: function 96 -/
mutual
def spec_qrAlign.l0 : Nat → List Int → Int → Int → Int → List Int → Int → Int → Option (Int)
  | 0, _, _, _, _, _, _, _ => none
  | k + 1, x0, x1, x2, x7, x16, x17, x18 => if x18 < x17 then (if 0 ≤ x18 then (if x18 < (x16.length : Int) then (if x1 < (wrap64 ((rd x16 x18) - 2)) then (spec_qrAlign.j1 k x0 x1 x2 x7 x18 (rd x16 x18) x16 x17 x18 true) else (spec_qrAlign.j1 k x0 x1 x2 x7 x18 (rd x16 x18) x16 x17 x18 (decide (x1 > (wrap64 ((rd x16 x18) + 2)))))) else (none)) else (none)) else (some (-1))
def spec_qrAlign.j1 : Nat → List Int → Int → Int → Int → Int → Int → List Int → Int → Int → Bool → Option (Int)
  | 0, _, _, _, _, _, _, _, _, _, _ => none
  | k + 1, x0, x1, x2, x7, x8, x9, x16, x17, x18, x32 => if x32 = true then (spec_qrAlign.l0 k x0 x1 x2 x7 x16 x17 (wrap64 (x18 + 1))) else (spec_qrAlign.l1 k x0 x1 x2 x7 x8 x9 x16 x17 x18 x0 (x0.length : Int) 0)
def spec_qrAlign.l1 : Nat → List Int → Int → Int → Int → Int → Int → List Int → Int → Int → List Int → Int → Int → Option (Int)
  | 0, _, _, _, _, _, _, _, _, _, _, _, _ => none
  | k + 1, x0, x1, x2, x7, x8, x9, x16, x17, x18, x33, x34, x35 => if x35 < x34 then (if 0 ≤ x35 then (if x35 < (x33.length : Int) then (if x8 = 0 then (if x35 = 0 then (spec_qrAlign.j3 k x0 x1 x2 x7 x8 x9 (rd x33 x35) x16 x17 x18 x33 x34 x35 true) else (if x35 = x7 then (spec_qrAlign.j3 k x0 x1 x2 x7 x8 x9 (rd x33 x35) x16 x17 x18 x33 x34 x35 true) else (if x8 = x7 then (spec_qrAlign.j3 k x0 x1 x2 x7 x8 x9 (rd x33 x35) x16 x17 x18 x33 x34 x35 (x35 == 0)) else (spec_qrAlign.j3 k x0 x1 x2 x7 x8 x9 (rd x33 x35) x16 x17 x18 x33 x34 x35 false)))) else (if x8 = x7 then (spec_qrAlign.j3 k x0 x1 x2 x7 x8 x9 (rd x33 x35) x16 x17 x18 x33 x34 x35 (x35 == 0)) else (spec_qrAlign.j3 k x0 x1 x2 x7 x8 x9 (rd x33 x35) x16 x17 x18 x33 x34 x35 false))) else (none)) else (none)) else (spec_qrAlign.l0 k x0 x1 x2 x7 x16 x17 (wrap64 (x18 + 1)))
def spec_qrAlign.j3 : Nat → List Int → Int → Int → Int → Int → Int → Int → List Int → Int → Int → List Int → Int → Int → Bool → Option (Int)
  | 0, _, _, _, _, _, _, _, _, _, _, _, _, _, _ => none
  | k + 1, x0, x1, x2, x7, x8, x9, x11, x16, x17, x18, x33, x34, x35, x59 => if x59 = true then (spec_qrAlign.l1 k x0 x1 x2 x7 x8 x9 x16 x17 x18 x33 x34 (wrap64 (x35 + 1))) else ((spec_qrFar.f x1 x2 x9 x11).bind fun t303 => (if t303 ≤ 2 then (some t303) else (spec_qrAlign.l1 k x0 x1 x2 x7 x8 x9 x16 x17 x18 x33 x34 (wrap64 (x35 + 1)))))
end
def spec_qrAlign.f (k : Nat) (l0 : List Int) (a1 : Int) (a2 : Int) : Option (Int) := spec_qrAlign.l0 k l0 a1 a2 (wrap64 ((l0.length : Int) - 1)) l0 (l0.length : Int) 0
theorem spec_qrAlign.mono_l : ∀ k, (∀ y0 y1 y2 y3 y4 y5 y6, LeO (spec_qrAlign.l0 k y0 y1 y2 y3 y4 y5 y6) (spec_qrAlign.l0 (k + 1) y0 y1 y2 y3 y4 y5 y6)) ∧ (∀ y0 y1 y2 y3 y4 y5 y6 y7 y8 y9, LeO (spec_qrAlign.j1 k y0 y1 y2 y3 y4 y5 y6 y7 y8 y9) (spec_qrAlign.j1 (k + 1) y0 y1 y2 y3 y4 y5 y6 y7 y8 y9)) ∧ (∀ y0 y1 y2 y3 y4 y5 y6 y7 y8 y9 y10 y11, LeO (spec_qrAlign.l1 k y0 y1 y2 y3 y4 y5 y6 y7 y8 y9 y10 y11) (spec_qrAlign.l1 (k + 1) y0 y1 y2 y3 y4 y5 y6 y7 y8 y9 y10 y11)) ∧ (∀ y0 y1 y2 y3 y4 y5 y6 y7 y8 y9 y10 y11 y12 y13, LeO (spec_qrAlign.j3 k y0 y1 y2 y3 y4 y5 y6 y7 y8 y9 y10 y11 y12 y13) (spec_qrAlign.j3 (k + 1) y0 y1 y2 y3 y4 y5 y6 y7 y8 y9 y10 y11 y12 y13))
  | 0 => ⟨fun _ _ _ _ _ _ _ r h => by simp [spec_qrAlign.l0] at h, fun _ _ _ _ _ _ _ _ _ _ r h => by simp [spec_qrAlign.j1] at h, fun _ _ _ _ _ _ _ _ _ _ _ _ r h => by simp [spec_qrAlign.l1] at h, fun _ _ _ _ _ _ _ _ _ _ _ _ _ _ r h => by simp [spec_qrAlign.j3] at h⟩
  | k + 1 => by
    obtain ⟨ih0, ih1, ih2, ih3⟩ := spec_qrAlign.mono_l k
    refine ⟨?_, ?_, ?_, ?_⟩
    · intro y0 y1 y2 y3 y4 y5 y6
      unfold spec_qrAlign.l0
      repeat' first
      | (with_reducible exact ih0 _ _ _ _ _ _ _)
      | (with_reducible exact ih1 _ _ _ _ _ _ _ _ _ _)
      | (with_reducible exact ih2 _ _ _ _ _ _ _ _ _ _ _ _)
      | (with_reducible exact ih3 _ _ _ _ _ _ _ _ _ _ _ _ _ _)
      | (with_reducible exact LeO.refl _)
      | (with_reducible exact LeO.none _)
      | (with_reducible refine LeO.ite ?_ ?_)
      | (with_reducible refine LeO.bind ?_ (fun _ => ?_))
      | exact ih0 _ _ _ _ _ _ _
      | exact ih1 _ _ _ _ _ _ _ _ _ _
      | exact ih2 _ _ _ _ _ _ _ _ _ _ _ _
      | exact ih3 _ _ _ _ _ _ _ _ _ _ _ _ _ _
      | exact LeO.none _
      | refine LeO.ite ?_ ?_
      | refine LeO.bind ?_ (fun _ => ?_)
    · intro y0 y1 y2 y3 y4 y5 y6 y7 y8 y9
      unfold spec_qrAlign.j1
      repeat' first
      | (with_reducible exact ih0 _ _ _ _ _ _ _)
      | (with_reducible exact ih1 _ _ _ _ _ _ _ _ _ _)
      | (with_reducible exact ih2 _ _ _ _ _ _ _ _ _ _ _ _)
      | (with_reducible exact ih3 _ _ _ _ _ _ _ _ _ _ _ _ _ _)
      | (with_reducible exact LeO.refl _)
      | (with_reducible exact LeO.none _)
      | (with_reducible refine LeO.ite ?_ ?_)
      | (with_reducible refine LeO.bind ?_ (fun _ => ?_))
      | exact ih0 _ _ _ _ _ _ _
      | exact ih1 _ _ _ _ _ _ _ _ _ _
      | exact ih2 _ _ _ _ _ _ _ _ _ _ _ _
      | exact ih3 _ _ _ _ _ _ _ _ _ _ _ _ _ _
      | exact LeO.none _
      | refine LeO.ite ?_ ?_
      | refine LeO.bind ?_ (fun _ => ?_)
    · intro y0 y1 y2 y3 y4 y5 y6 y7 y8 y9 y10 y11
      unfold spec_qrAlign.l1
      repeat' first
      | (with_reducible exact ih0 _ _ _ _ _ _ _)
      | (with_reducible exact ih1 _ _ _ _ _ _ _ _ _ _)
      | (with_reducible exact ih2 _ _ _ _ _ _ _ _ _ _ _ _)
      | (with_reducible exact ih3 _ _ _ _ _ _ _ _ _ _ _ _ _ _)
      | (with_reducible exact LeO.refl _)
      | (with_reducible exact LeO.none _)
      | (with_reducible refine LeO.ite ?_ ?_)
      | (with_reducible refine LeO.bind ?_ (fun _ => ?_))
      | exact ih0 _ _ _ _ _ _ _
      | exact ih1 _ _ _ _ _ _ _ _ _ _
      | exact ih2 _ _ _ _ _ _ _ _ _ _ _ _
      | exact ih3 _ _ _ _ _ _ _ _ _ _ _ _ _ _
      | exact LeO.none _
      | refine LeO.ite ?_ ?_
      | refine LeO.bind ?_ (fun _ => ?_)
    · intro y0 y1 y2 y3 y4 y5 y6 y7 y8 y9 y10 y11 y12 y13
      unfold spec_qrAlign.j3
      repeat' first
      | (with_reducible exact ih0 _ _ _ _ _ _ _)
      | (with_reducible exact ih1 _ _ _ _ _ _ _ _ _ _)
      | (with_reducible exact ih2 _ _ _ _ _ _ _ _ _ _ _ _)
      | (with_reducible exact ih3 _ _ _ _ _ _ _ _ _ _ _ _ _ _)
      | (with_reducible exact LeO.refl _)
      | (with_reducible exact LeO.none _)
      | (with_reducible refine LeO.ite ?_ ?_)
      | (with_reducible refine LeO.bind ?_ (fun _ => ?_))
      | exact ih0 _ _ _ _ _ _ _
      | exact ih1 _ _ _ _ _ _ _ _ _ _
      | exact ih2 _ _ _ _ _ _ _ _ _ _ _ _
      | exact ih3 _ _ _ _ _ _ _ _ _ _ _ _ _ _
      | exact LeO.none _
      | refine LeO.ite ?_ ?_
      | refine LeO.bind ?_ (fun _ => ?_)
theorem spec_qrAlign.mono : ∀ a0 a1 a2 k, LeO (spec_qrAlign.f k a0 a1 a2) (spec_qrAlign.f (k + 1) a0 a1 a2) := by
  intro a0 a1 a2 k
  obtain ⟨ih0, ih1, ih2, ih3⟩ := spec_qrAlign.mono_l k
  unfold spec_qrAlign.f
  repeat' first
      | (with_reducible exact ih0 _ _ _ _ _ _ _)
      | (with_reducible exact ih1 _ _ _ _ _ _ _ _ _ _)
      | (with_reducible exact ih2 _ _ _ _ _ _ _ _ _ _ _ _)
      | (with_reducible exact ih3 _ _ _ _ _ _ _ _ _ _ _ _ _ _)
      | (with_reducible exact LeO.refl _)
      | (with_reducible exact LeO.none _)
      | (with_reducible refine LeO.ite ?_ ?_)
      | (with_reducible refine LeO.bind ?_ (fun _ => ?_))
      | exact ih0 _ _ _ _ _ _ _
      | exact ih1 _ _ _ _ _ _ _ _ _ _
      | exact ih2 _ _ _ _ _ _ _ _ _ _ _ _
      | exact ih3 _ _ _ _ _ _ _ _ _ _ _ _ _ _
      | exact LeO.none _
      | refine LeO.ite ?_ ?_
      | refine LeO.bind ?_ (fun _ => ?_)
set_option maxHeartbeats 8000000 in
set_option maxRecDepth 100000 in
theorem spec_qrAlign.calls (k : Nat) (A0 : Option Addr) (c0 : Nat) (l0 : List Int) (a1 : Int) (a2 : Int) (r : Int) (w : World) (hr0 : Kd.C (Kd.int .i64) w A0 l0.length l0) (hc0 : l0.length ≤ c0) (h : spec_qrAlign.f k l0 a1 a2 = some r) :
    Calls Tryz.prog 96 #[.slice A0 l0.length c0, .int .i64 a1, .int .i64 a2] w fun e w' => e = .returned (.int .i64 r) ∧ Below w.heap.size w w' := by
  have HR0 := Aside0.mk hr0
  have HC0 := Aside0.mk hc0
  clear hr0 hc0
  have HB := Aside0.mk (Below.refl w.heap.size w)
  have H : (spec_qrAlign.l0 k l0 a1 a2 (wrap64 ((l0.length : Int) - 1)) l0 (l0.length : Int) 0) = some r := h
  clear h
  have H' := Aside0.mk H
  clear H
  go_enter Tryz.func96, Tryz.ntmps96
  go_wp2
  go_loopg [18] k (fun kq v18 w' => ∃ (x18_1 : Int), v18 = .int .i64 x18_1 ∧ Aside0 (spec_qrAlign.l0 kq l0 a1 a2 (wrap64 ((l0.length : Int) - 1)) l0 (l0.length : Int) x18_1 = some r) ∧ Aside0 (kq ≤ k) ∧ Aside0 (Below w.heap.size w w'))
  case atStart => exact ⟨(0), (by first | rfl | (simp; done) | (simp [*]; done)), H', ⟨Nat.le_refl _⟩, ⟨by repeat (first | (with_reducible first | exact HB.out | apply below_alloc | apply pw_below_drewN | apply below_drew1) | exact HB.out)⟩⟩
  case round =>
    clear H'
    try clear p2
    obtain ⟨x18_1, rfl, HA, HK1, HB⟩ := hrel
    cases gk with
    | zero => exact absurd HA.out (by simp [spec_qrAlign.l0])
    | succ k1 =>
      have H := HA.out
      clear HA
      simp only [spec_qrAlign.l0] at H
      by_cases c4 : x18_1 < (l0.length : Int)
      · rw [if_pos c4] at H
        have c4b0 : decide (x18_1 < (l0.length : Int)) = true := decide_eq_true c4
        clear c4
        by_cases c5 : 0 ≤ x18_1
        · rw [if_pos c5] at H
          have c5b0 : decide (0 ≤ x18_1) = true := decide_eq_true c5
          clear c5
          by_cases c6 : x18_1 < (l0.length : Int)
          · rw [if_pos c6] at H
            have c6b0 : decide (x18_1 < (l0.length : Int)) = true := decide_eq_true c6
            clear c6
            have HC7 := Aside0.mk H
            clear H
            have p301 : 0 ≤ (x18_1 : Int) := of_decide_eq_true (by first | (with_reducible assumption) | assumption)
            have q301 : x18_1 < (l0.length : Int) := of_decide_eq_true (by first | (with_reducible assumption) | assumption)
            obtain ⟨ad301, e301, hx301_0⟩ := Kd.at_int HR0.out x18_1 p301 q301
            cases e301
            replace hx301_0 := (HB.out.cell (World.block_lt_of_cell? w _ hx301_0)).trans hx301_0
            replace p301 := eq_true p301
            replace q301 := eq_true q301
            go_upto_region 5 with (fail)
            go_cut [32] (fun v32 wc => ∃ (kq : Nat) (x32_6 : Bool), v32 = .bool x32_6 ∧ Aside0 (spec_qrAlign.j1 kq l0 a1 a2 (wrap64 ((l0.length : Int) - 1)) x18_1 (rd l0 x18_1) l0 (l0.length : Int) x18_1 x32_6 = some r) ∧ Aside0 (kq ≤ k1) ∧ Aside0 (Below w.heap.size w wc))
            case first =>
              have H := HC7.out
              clear HC7
              by_cases c8 : a1 < (wrap64 ((rd l0 x18_1) - 2))
              · rw [if_pos c8] at H
                have c8b0 : decide (a1 < (wrap64 ((rd l0 x18_1) - 2))) = true := decide_eq_true c8
                clear c8
                (first | rw [c8b0] | (simp only [i64_w, i32_w]; rw [c8b0]) | skip)
                have H' := Aside0.mk H
                clear H
                go_wp2
                go_meet
                case rel => exact ⟨_, (true), (by first | rfl | (simp; done) | (simp [*]; done)), H', ⟨by have := HK1.out; first | omega | exact Nat.le_refl _⟩, ⟨by repeat (first | (with_reducible first | exact HB.out | apply below_alloc | apply pw_below_drewN | apply below_drew1) | exact HB.out)⟩⟩
              · rw [if_neg c8] at H
                have c8b0 : decide (a1 < (wrap64 ((rd l0 x18_1) - 2))) = false := decide_eq_false c8
                clear c8
                (first | rw [c8b0] | (simp only [i64_w, i32_w]; rw [c8b0]) | skip)
                have H' := Aside0.mk H
                clear H
                go_wp2
                go_meet
                case rel => exact ⟨_, (decide (a1 > (wrap64 ((rd l0 x18_1) + 2)))), (by first | rfl | (simp; done) | (simp [*]; done)), H', ⟨by have := HK1.out; first | omega | exact Nat.le_refl _⟩, ⟨by repeat (first | (with_reducible first | exact HB.out | apply below_alloc | apply pw_below_drewN | apply below_drew1) | exact HB.out)⟩⟩
            case rest =>
              clear HC7
              try clear p2
              try clear p3
              try clear q3
              try clear hx3
              try clear c4
              try clear c4b0
              try clear c5
              try clear c5b0
              try clear c6
              try clear c6b0
              try clear p6
              try clear c8
              try clear c8b0
              try clear hx301_0
              try clear p2
              try clear p301
              try clear q301
              obtain ⟨kq, x32_6, rfl, HA, HJ6, HB⟩ := hcut
              cases kq with
              | zero => exact absurd HA.out (by simp [spec_qrAlign.j1])
              | succ kj6 =>
                have H := HA.out
                clear HA
                simp only [spec_qrAlign.j1] at H
                by_cases c9 : x32_6 = true
                · subst c9
                  have H1 : (spec_qrAlign.l0 kj6 l0 a1 a2 (wrap64 ((l0.length : Int) - 1)) l0 (l0.length : Int) (wrap64 (x18_1 + 1))) = some r := by rw [if_pos rfl] at H; exact H
                  clear H
                  have H := H1
                  clear H1
                  have H' := Aside0.mk H
                  clear H
                  go_wp2
                  go_roundg kj6
                  case measure => have := HK1.out; have := HJ6.out; omega
                  case rel => exact ⟨(wrap64 (x18_1 + 1)), (by first | rfl | (simp; done) | (simp [*]; done)), H', ⟨by have := HK1.out; have := HJ6.out; omega⟩, ⟨by repeat (first | (with_reducible first | exact HB.out | apply below_alloc | apply pw_below_drewN | apply below_drew1) | exact HB.out)⟩⟩
                · replace c9 := Bool.eq_false_iff.mpr c9
                  subst c9
                  have H1 : (spec_qrAlign.l1 kj6 l0 a1 a2 (wrap64 ((l0.length : Int) - 1)) x18_1 (rd l0 x18_1) l0 (l0.length : Int) x18_1 l0 (l0.length : Int) 0) = some r := by rw [if_neg (show ¬ (false = true) by decide)] at H; exact H
                  clear H
                  have H := H1
                  clear H1
                  have H' := Aside0.mk H
                  clear H
                  go_wp2
                  go_loopg [35] kj6 (fun kq v35 w' => ∃ (x35_3 : Int), v35 = .int .i64 x35_3 ∧ Aside0 (spec_qrAlign.l1 kq l0 a1 a2 (wrap64 ((l0.length : Int) - 1)) x18_1 (rd l0 x18_1) l0 (l0.length : Int) x18_1 l0 (l0.length : Int) x35_3 = some r) ∧ Aside0 (kq ≤ kj6) ∧ Aside0 (Below w.heap.size w w'))
                  case atStart => exact ⟨(0), (by first | rfl | (simp; done) | (simp [*]; done)), H', ⟨Nat.le_refl _⟩, ⟨by repeat (first | (with_reducible first | exact HB.out | apply below_alloc | apply pw_below_drewN | apply below_drew1) | exact HB.out)⟩⟩
                  case round =>
                    clear H'
                    try clear p2
                    try clear p3
                    try clear q3
                    try clear hx3
                    try clear c4
                    try clear c4b0
                    try clear c5
                    try clear c5b0
                    try clear c6
                    try clear c6b0
                    try clear p6
                    try clear c8
                    try clear c8b0
                    try clear c9
                    try clear hx301_0
                    try clear p2
                    try clear p3
                    try clear p301
                    try clear p6
                    try clear q3
                    try clear q301
                    obtain ⟨x35_3, rfl, HA, HK3, HB⟩ := hrel
                    cases gk with
                    | zero => exact absurd HA.out (by simp [spec_qrAlign.l1])
                    | succ k3 =>
                      have H := HA.out
                      clear HA
                      simp only [spec_qrAlign.l1] at H
                      by_cases c10 : x35_3 < (l0.length : Int)
                      · rw [if_pos c10] at H
                        have c10b0 : decide (x35_3 < (l0.length : Int)) = true := decide_eq_true c10
                        clear c10
                        by_cases c11 : 0 ≤ x35_3
                        · rw [if_pos c11] at H
                          have c11b0 : decide (0 ≤ x35_3) = true := decide_eq_true c11
                          clear c11
                          by_cases c12 : x35_3 < (l0.length : Int)
                          · rw [if_pos c12] at H
                            have c12b0 : decide (x35_3 < (l0.length : Int)) = true := decide_eq_true c12
                            clear c12
                            have HC13 := Aside0.mk H
                            clear H
                            have p302 : 0 ≤ (x35_3 : Int) := of_decide_eq_true (by first | (with_reducible assumption) | assumption)
                            have q302 : x35_3 < (l0.length : Int) := of_decide_eq_true (by first | (with_reducible assumption) | assumption)
                            obtain ⟨ad302, e302, hx302_0⟩ := Kd.at_int HR0.out x35_3 p302 q302
                            obtain rfl : ad301 = ad302 := (by injection e302)
                            replace hx302_0 := (HB.out.cell (World.block_lt_of_cell? w _ hx302_0)).trans hx302_0
                            replace p302 := eq_true p302
                            replace q302 := eq_true q302
                            go_upto_region 9 with (fail)
                            go_cut [59] (fun v59 wc => ∃ (kq : Nat) (x59_12 : Bool), v59 = .bool x59_12 ∧ Aside0 (spec_qrAlign.j3 kq l0 a1 a2 (wrap64 ((l0.length : Int) - 1)) x18_1 (rd l0 x18_1) (rd l0 x35_3) l0 (l0.length : Int) x18_1 l0 (l0.length : Int) x35_3 x59_12 = some r) ∧ Aside0 (kq ≤ k3) ∧ Aside0 (Below w.heap.size w wc))
                            case first =>
                              have H := HC13.out
                              clear HC13
                              by_cases c14 : x18_1 = 0
                              · rw [if_pos c14] at H
                                have c14b0 : (x18_1 == 0) = true := beq_iff_eq.mpr c14
                                have c14b1 : (x18_1 != 0) = false := bne_eq_false_iff_eq.mpr c14
                                clear c14
                                (first | rw [c14b0] | (simp only [i64_w, i32_w]; rw [c14b0]) | skip)
                                by_cases c15 : x35_3 = 0
                                · rw [if_pos c15] at H
                                  have c15b0 : (x35_3 == 0) = true := beq_iff_eq.mpr c15
                                  have c15b1 : (x35_3 != 0) = false := bne_eq_false_iff_eq.mpr c15
                                  clear c15
                                  have H' := Aside0.mk H
                                  clear H
                                  go_wp2
                                  go_meet
                                  case rel => exact ⟨_, (true), (by first | rfl | (simp; done) | (simp [*]; done)), H', ⟨by have := HK1.out; have := HJ6.out; have := HK3.out; first | omega | exact Nat.le_refl _⟩, ⟨by repeat (first | (with_reducible first | exact HB.out | apply below_alloc | apply pw_below_drewN | apply below_drew1) | exact HB.out)⟩⟩
                                · rw [if_neg c15] at H
                                  have c15b0 : (x35_3 == 0) = false := beq_eq_false_iff_ne.mpr c15
                                  have c15b1 : (x35_3 != 0) = true := bne_iff_ne.mpr c15
                                  by_cases c16 : x35_3 = (wrap64 ((l0.length : Int) - 1))
                                  · rw [if_pos c16] at H
                                    have c16b0 : (x35_3 == (wrap64 ((l0.length : Int) - 1))) = true := beq_iff_eq.mpr c16
                                    have c16b1 : (x35_3 != (wrap64 ((l0.length : Int) - 1))) = false := bne_eq_false_iff_eq.mpr c16
                                    clear c16
                                    have H' := Aside0.mk H
                                    clear H
                                    go_wp2
                                    go_meet
                                    case rel => exact ⟨_, (true), (by first | rfl | (simp; done) | (simp [*]; done)), H', ⟨by have := HK1.out; have := HJ6.out; have := HK3.out; first | omega | exact Nat.le_refl _⟩, ⟨by repeat (first | (with_reducible first | exact HB.out | apply below_alloc | apply pw_below_drewN | apply below_drew1) | exact HB.out)⟩⟩
                                  · rw [if_neg c16] at H
                                    have c16b0 : (x35_3 == (wrap64 ((l0.length : Int) - 1))) = false := beq_eq_false_iff_ne.mpr c16
                                    have c16b1 : (x35_3 != (wrap64 ((l0.length : Int) - 1))) = true := bne_iff_ne.mpr c16
                                    by_cases c17 : x18_1 = (wrap64 ((l0.length : Int) - 1))
                                    · rw [if_pos c17] at H
                                      have c17b0 : (x18_1 == (wrap64 ((l0.length : Int) - 1))) = true := beq_iff_eq.mpr c17
                                      have c17b1 : (x18_1 != (wrap64 ((l0.length : Int) - 1))) = false := bne_eq_false_iff_eq.mpr c17
                                      clear c17
                                      have H' := Aside0.mk H
                                      clear H
                                      go_wp2
                                      go_meet
                                      case rel => exact ⟨_, ((x35_3 == 0)), (by first | rfl | (simp; done) | (simp [*]; done)), H', ⟨by have := HK1.out; have := HJ6.out; have := HK3.out; first | omega | exact Nat.le_refl _⟩, ⟨by repeat (first | (with_reducible first | exact HB.out | apply below_alloc | apply pw_below_drewN | apply below_drew1) | exact HB.out)⟩⟩
                                    · rw [if_neg c17] at H
                                      have c17b0 : (x18_1 == (wrap64 ((l0.length : Int) - 1))) = false := beq_eq_false_iff_ne.mpr c17
                                      have c17b1 : (x18_1 != (wrap64 ((l0.length : Int) - 1))) = true := bne_iff_ne.mpr c17
                                      have H' := Aside0.mk H
                                      clear H
                                      go_wp2
                                      go_meet
                                      case rel => exact ⟨_, (false), (by first | rfl | (simp; done) | (simp [*]; done)), H', ⟨by have := HK1.out; have := HJ6.out; have := HK3.out; first | omega | exact Nat.le_refl _⟩, ⟨by repeat (first | (with_reducible first | exact HB.out | apply below_alloc | apply pw_below_drewN | apply below_drew1) | exact HB.out)⟩⟩
                              · rw [if_neg c14] at H
                                have c14b0 : (x18_1 == 0) = false := beq_eq_false_iff_ne.mpr c14
                                have c14b1 : (x18_1 != 0) = true := bne_iff_ne.mpr c14
                                (first | rw [c14b0] | (simp only [i64_w, i32_w]; rw [c14b0]) | skip)
                                by_cases c18 : x18_1 = (wrap64 ((l0.length : Int) - 1))
                                · rw [if_pos c18] at H
                                  have c18b0 : (x18_1 == (wrap64 ((l0.length : Int) - 1))) = true := beq_iff_eq.mpr c18
                                  have c18b1 : (x18_1 != (wrap64 ((l0.length : Int) - 1))) = false := bne_eq_false_iff_eq.mpr c18
                                  clear c18
                                  have H' := Aside0.mk H
                                  clear H
                                  go_wp2
                                  go_meet
                                  case rel => exact ⟨_, ((x35_3 == 0)), (by first | rfl | (simp; done) | (simp [*]; done)), H', ⟨by have := HK1.out; have := HJ6.out; have := HK3.out; first | omega | exact Nat.le_refl _⟩, ⟨by repeat (first | (with_reducible first | exact HB.out | apply below_alloc | apply pw_below_drewN | apply below_drew1) | exact HB.out)⟩⟩
                                · rw [if_neg c18] at H
                                  have c18b0 : (x18_1 == (wrap64 ((l0.length : Int) - 1))) = false := beq_eq_false_iff_ne.mpr c18
                                  have c18b1 : (x18_1 != (wrap64 ((l0.length : Int) - 1))) = true := bne_iff_ne.mpr c18
                                  have H' := Aside0.mk H
                                  clear H
                                  go_wp2
                                  go_meet
                                  case rel => exact ⟨_, (false), (by first | rfl | (simp; done) | (simp [*]; done)), H', ⟨by have := HK1.out; have := HJ6.out; have := HK3.out; first | omega | exact Nat.le_refl _⟩, ⟨by repeat (first | (with_reducible first | exact HB.out | apply below_alloc | apply pw_below_drewN | apply below_drew1) | exact HB.out)⟩⟩
                            case rest =>
                              clear HC13
                              try clear c1
                              try clear p2
                              try clear p3
                              try clear q3
                              try clear hx3
                              try clear c4
                              try clear c4b0
                              try clear c5
                              try clear c5b0
                              try clear c6
                              try clear c6b0
                              try clear p6
                              try clear c8
                              try clear c8b0
                              try clear c9
                              try clear c10
                              try clear c10b0
                              try clear c11
                              try clear c11b0
                              try clear c12
                              try clear c12b0
                              try clear c14
                              try clear c14b0
                              try clear c14b1
                              try clear c15
                              try clear c15b0
                              try clear c15b1
                              try clear c16
                              try clear c16b0
                              try clear c16b1
                              try clear c17
                              try clear c17b0
                              try clear c17b1
                              try clear c18
                              try clear c18b0
                              try clear c18b1
                              try clear hx301_0
                              try clear hx302_0
                              try clear p2
                              try clear p3
                              try clear p301
                              try clear p302
                              try clear p6
                              try clear q3
                              try clear q301
                              try clear q302
                              obtain ⟨kq, x59_12, rfl, HA, HJ12, HB⟩ := hcut
                              cases kq with
                              | zero => exact absurd HA.out (by simp [spec_qrAlign.j3])
                              | succ kj12 =>
                                have H := HA.out
                                clear HA
                                simp only [spec_qrAlign.j3] at H
                                by_cases c19 : x59_12 = true
                                · subst c19
                                  have H1 : (spec_qrAlign.l1 kj12 l0 a1 a2 (wrap64 ((l0.length : Int) - 1)) x18_1 (rd l0 x18_1) l0 (l0.length : Int) x18_1 l0 (l0.length : Int) (wrap64 (x35_3 + 1))) = some r := by rw [if_pos rfl] at H; exact H
                                  clear H
                                  have H := H1
                                  clear H1
                                  have H' := Aside0.mk H
                                  clear H
                                  go_wp2
                                  go_roundg kj12
                                  case measure => have := HK1.out; have := HJ6.out; have := HK3.out; have := HJ12.out; omega
                                  case rel => exact ⟨(wrap64 (x35_3 + 1)), (by first | rfl | (simp; done) | (simp [*]; done)), H', ⟨by have := HK1.out; have := HJ6.out; have := HK3.out; have := HJ12.out; omega⟩, ⟨by repeat (first | (with_reducible first | exact HB.out | apply below_alloc | apply pw_below_drewN | apply below_drew1) | exact HB.out)⟩⟩
                                · replace c19 := Bool.eq_false_iff.mpr c19
                                  subst c19
                                  have H1 : ((spec_qrFar.f a1 a2 (rd l0 x18_1) (rd l0 x35_3)).bind fun t303 => (if t303 ≤ 2 then (some t303) else (spec_qrAlign.l1 kj12 l0 a1 a2 (wrap64 ((l0.length : Int) - 1)) x18_1 (rd l0 x18_1) l0 (l0.length : Int) x18_1 l0 (l0.length : Int) (wrap64 (x35_3 + 1))))) = some r := by rw [if_neg (show ¬ (false = true) by decide)] at H; exact H
                                  clear H
                                  have H := H1
                                  clear H1
                                  replace H := Option.bind_eq_some_iff.mp H
                                  obtain ⟨t303, A200, H⟩ := H
                                  replace H : (if t303 ≤ 2 then (some t303) else (spec_qrAlign.l1 kj12 l0 a1 a2 (wrap64 ((l0.length : Int) - 1)) x18_1 (rd l0 x18_1) l0 (l0.length : Int) x18_1 l0 (l0.length : Int) (wrap64 (x35_3 + 1)))) = some r := H
                                  have A20 := Aside0.mk A200
                                  clear A200
                                  by_cases c21 : t303 ≤ 2
                                  · rw [if_pos c21] at H
                                    have c21b0 : decide (t303 ≤ 2) = true := decide_eq_true c21
                                    clear c21
                                    obtain rfl := Option.some.inj H
                                    go_wp2_with (first | ((with_reducible refine gate_callee (f := 98) rfl ?_); refine goesL_ (some 64) rfl rfl Tryz.func98 (by kernel_rfl) rfl #[.int .i64 a1, .int .i64 a2, .int .i64 (rd l0 x18_1), .int .i64 (rd l0 x35_3)] rfl (by (try simp only [List.map_toArray, List.map_cons, List.map_nil]); first | done | rfl | (simp only [List.length_drop, List.length_take]; rfl)) ?_; (with_reducible refine (spec_qrFar.calls a1 a2 (rd l0 x18_1) (rd l0 x35_3) t303 _ A20.out).mono ?_); rintro e w22 ⟨rfl, hb⟩; refine ⟨_, rfl, ?_⟩; have n0_ := Aside0.mk (below_step (by repeat (first | (with_reducible first | exact HB.out | apply below_alloc | apply pw_below_drewN | apply below_drew1) | exact HB.out)) hb); clear HB; have HB := n0_; clear n0_; (try clear hb); (try clear hb2); (try clear hk); (try clear hi)))
                                    go_ret
                                    exact ⟨by first | rfl | (simp [errW_none, errW_some] <;> rfl) | (simp [*, errW_none, errW_some] <;> rfl), by repeat (first | (with_reducible first | exact HB.out | apply below_alloc | apply pw_below_drewN | apply below_drew1) | exact HB.out)⟩
                                  · rw [if_neg c21] at H
                                    have c21b0 : decide (t303 ≤ 2) = false := decide_eq_false c21
                                    clear c21
                                    have H' := Aside0.mk H
                                    clear H
                                    go_wp2_with (first | ((with_reducible refine gate_callee (f := 98) rfl ?_); refine goesL_ (some 64) rfl rfl Tryz.func98 (by kernel_rfl) rfl #[.int .i64 a1, .int .i64 a2, .int .i64 (rd l0 x18_1), .int .i64 (rd l0 x35_3)] rfl (by (try simp only [List.map_toArray, List.map_cons, List.map_nil]); first | done | rfl | (simp only [List.length_drop, List.length_take]; rfl)) ?_; (with_reducible refine (spec_qrFar.calls a1 a2 (rd l0 x18_1) (rd l0 x35_3) t303 _ A20.out).mono ?_); rintro e w23 ⟨rfl, hb⟩; refine ⟨_, rfl, ?_⟩; have n0_ := Aside0.mk (below_step (by repeat (first | (with_reducible first | exact HB.out | apply below_alloc | apply pw_below_drewN | apply below_drew1) | exact HB.out)) hb); clear HB; have HB := n0_; clear n0_; (try clear hb); (try clear hb2); (try clear hk); (try clear hi)))
                                    go_roundg kj12
                                    case measure => have := HK1.out; have := HJ6.out; have := HK3.out; have := HJ12.out; omega
                                    case rel => exact ⟨(wrap64 (x35_3 + 1)), (by first | rfl | (simp; done) | (simp [*]; done)), H', ⟨by have := HK1.out; have := HJ6.out; have := HK3.out; have := HJ12.out; omega⟩, ⟨by repeat (first | (with_reducible first | exact HB.out | apply below_alloc | apply pw_below_drewN | apply below_drew1) | exact HB.out)⟩⟩
                          · rw [if_neg c12] at H
                            exact absurd H (by simp)
                        · rw [if_neg c11] at H
                          exact absurd H (by simp)
                      · rw [if_neg c10] at H
                        have c10b0 : decide (x35_3 < (l0.length : Int)) = false := decide_eq_false c10
                        clear c10
                        have H' := Aside0.mk H
                        clear H
                        go_wp2
                        go_roundg k3
                        case measure => have := HK1.out; have := HJ6.out; have := HK3.out; omega
                        case rel => exact ⟨(wrap64 (x18_1 + 1)), (by first | rfl | (simp; done) | (simp [*]; done)), H', ⟨by have := HK1.out; have := HJ6.out; have := HK3.out; omega⟩, ⟨by repeat (first | (with_reducible first | exact HB.out | apply below_alloc | apply pw_below_drewN | apply below_drew1) | exact HB.out)⟩⟩
          · rw [if_neg c6] at H
            exact absurd H (by simp)
        · rw [if_neg c5] at H
          exact absurd H (by simp)
      · rw [if_neg c4] at H
        have c4b0 : decide (x18_1 < (l0.length : Int)) = false := decide_eq_false c4
        clear c4
        obtain rfl := Option.some.inj H
        go_wp2
        go_ret
        exact ⟨by first | rfl | (simp [errW_none, errW_some] <;> rfl) | (simp [*, errW_none, errW_some] <;> rfl), by repeat (first | (with_reducible first | exact HB.out | apply below_alloc | apply pw_below_drewN | apply below_drew1) | exact HB.out)⟩

/-! ### spec_qrGiven: function 49 -/
mutual
def spec_qrGiven.j0 : Nat → Int → List Int → Int → Int → Int → Bool → Option (Bool)
  | 0, _, _, _, _, _, _ => none
  | k + 1, x0, x1, x2, x3, x9, x12 => if x12 = true then (spec_qrGiven.j2 k x0 x1 x2 x3 x9 x12) else (if x2 ≥ (wrap64 (x9 - 8)) then (spec_qrGiven.j1 k x0 x1 x2 x3 x9 (decide (x3 ≤ 8))) else (spec_qrGiven.j1 k x0 x1 x2 x3 x9 false))
def spec_qrGiven.j2 : Nat → Int → List Int → Int → Int → Int → Bool → Option (Bool)
  | 0, _, _, _, _, _, _ => none
  | k + 1, x0, x1, x2, x3, x9, x12 => if x12 = true then (some true) else (if x0 ≥ 7 then (if x2 ≤ 5 then (if x3 ≥ (wrap64 (x9 - 11)) then (some true) else (if x3 ≤ 5 then (if x2 ≥ (wrap64 (x9 - 11)) then (some true) else ((spec_qrAlign.f k x1 x2 x3).bind fun t305 => (some (decide (t305 ≥ 0))))) else ((spec_qrAlign.f k x1 x2 x3).bind fun t306 => (some (decide (t306 ≥ 0)))))) else (if x3 ≤ 5 then (if x2 ≥ (wrap64 (x9 - 11)) then (some true) else ((spec_qrAlign.f k x1 x2 x3).bind fun t307 => (some (decide (t307 ≥ 0))))) else ((spec_qrAlign.f k x1 x2 x3).bind fun t308 => (some (decide (t308 ≥ 0)))))) else ((spec_qrAlign.f k x1 x2 x3).bind fun t309 => (some (decide (t309 ≥ 0)))))
def spec_qrGiven.j1 : Nat → Int → List Int → Int → Int → Int → Bool → Option (Bool)
  | 0, _, _, _, _, _, _ => none
  | k + 1, x0, x1, x2, x3, x9, x12 => if x12 = true then (spec_qrGiven.j2 k x0 x1 x2 x3 x9 x12) else (if x2 = 6 then (spec_qrGiven.j2 k x0 x1 x2 x3 x9 (x2 == 6)) else (spec_qrGiven.j2 k x0 x1 x2 x3 x9 (x3 == 6)))
end
def spec_qrGiven.f (k : Nat) (a0 : Int) (l1 : List Int) (a2 : Int) (a3 : Int) : Option (Bool) := (spec_QRDimension.f a0).bind fun t304 => (if a2 ≤ 8 then (if a3 ≤ 8 then (spec_qrGiven.j0 k a0 l1 a2 a3 t304 true) else (spec_qrGiven.j0 k a0 l1 a2 a3 t304 (decide (a3 ≥ (wrap64 (t304 - 8)))))) else (spec_qrGiven.j0 k a0 l1 a2 a3 t304 false))
theorem spec_qrGiven.mono_l : ∀ k, (∀ y0 y1 y2 y3 y4 y5, LeO (spec_qrGiven.j0 k y0 y1 y2 y3 y4 y5) (spec_qrGiven.j0 (k + 1) y0 y1 y2 y3 y4 y5)) ∧ (∀ y0 y1 y2 y3 y4 y5, LeO (spec_qrGiven.j2 k y0 y1 y2 y3 y4 y5) (spec_qrGiven.j2 (k + 1) y0 y1 y2 y3 y4 y5)) ∧ (∀ y0 y1 y2 y3 y4 y5, LeO (spec_qrGiven.j1 k y0 y1 y2 y3 y4 y5) (spec_qrGiven.j1 (k + 1) y0 y1 y2 y3 y4 y5))
  | 0 => ⟨fun _ _ _ _ _ _ r h => by simp [spec_qrGiven.j0] at h, fun _ _ _ _ _ _ r h => by simp [spec_qrGiven.j2] at h, fun _ _ _ _ _ _ r h => by simp [spec_qrGiven.j1] at h⟩
  | k + 1 => by
    obtain ⟨ih0, ih1, ih2⟩ := spec_qrGiven.mono_l k
    refine ⟨?_, ?_, ?_⟩
    · intro y0 y1 y2 y3 y4 y5
      unfold spec_qrGiven.j0
      repeat' first
      | (with_reducible exact ih0 _ _ _ _ _ _)
      | (with_reducible exact ih1 _ _ _ _ _ _)
      | (with_reducible exact ih2 _ _ _ _ _ _)
      | (with_reducible exact spec_qrAlign.mono _ _ _ _)
      | (with_reducible exact LeO.refl _)
      | (with_reducible exact LeO.none _)
      | (with_reducible refine LeO.ite ?_ ?_)
      | (with_reducible refine LeO.bind ?_ (fun _ => ?_))
      | exact ih0 _ _ _ _ _ _
      | exact ih1 _ _ _ _ _ _
      | exact ih2 _ _ _ _ _ _
      | exact spec_qrAlign.mono _ _ _ _
      | exact LeO.none _
      | refine LeO.ite ?_ ?_
      | refine LeO.bind ?_ (fun _ => ?_)
    · intro y0 y1 y2 y3 y4 y5
      unfold spec_qrGiven.j2
      repeat' first
      | (with_reducible exact ih0 _ _ _ _ _ _)
      | (with_reducible exact ih1 _ _ _ _ _ _)
      | (with_reducible exact ih2 _ _ _ _ _ _)
      | (with_reducible exact spec_qrAlign.mono _ _ _ _)
      | (with_reducible exact LeO.refl _)
      | (with_reducible exact LeO.none _)
      | (with_reducible refine LeO.ite ?_ ?_)
      | (with_reducible refine LeO.bind ?_ (fun _ => ?_))
      | exact ih0 _ _ _ _ _ _
      | exact ih1 _ _ _ _ _ _
      | exact ih2 _ _ _ _ _ _
      | exact spec_qrAlign.mono _ _ _ _
      | exact LeO.none _
      | refine LeO.ite ?_ ?_
      | refine LeO.bind ?_ (fun _ => ?_)
    · intro y0 y1 y2 y3 y4 y5
      unfold spec_qrGiven.j1
      repeat' first
      | (with_reducible exact ih0 _ _ _ _ _ _)
      | (with_reducible exact ih1 _ _ _ _ _ _)
      | (with_reducible exact ih2 _ _ _ _ _ _)
      | (with_reducible exact spec_qrAlign.mono _ _ _ _)
      | (with_reducible exact LeO.refl _)
      | (with_reducible exact LeO.none _)
      | (with_reducible refine LeO.ite ?_ ?_)
      | (with_reducible refine LeO.bind ?_ (fun _ => ?_))
      | exact ih0 _ _ _ _ _ _
      | exact ih1 _ _ _ _ _ _
      | exact ih2 _ _ _ _ _ _
      | exact spec_qrAlign.mono _ _ _ _
      | exact LeO.none _
      | refine LeO.ite ?_ ?_
      | refine LeO.bind ?_ (fun _ => ?_)
theorem spec_qrGiven.mono : ∀ a0 a1 a2 a3 k, LeO (spec_qrGiven.f k a0 a1 a2 a3) (spec_qrGiven.f (k + 1) a0 a1 a2 a3) := by
  intro a0 a1 a2 a3 k
  obtain ⟨ih0, ih1, ih2⟩ := spec_qrGiven.mono_l k
  unfold spec_qrGiven.f
  repeat' first
      | (with_reducible exact ih0 _ _ _ _ _ _)
      | (with_reducible exact ih1 _ _ _ _ _ _)
      | (with_reducible exact ih2 _ _ _ _ _ _)
      | (with_reducible exact spec_qrAlign.mono _ _ _ _)
      | (with_reducible exact LeO.refl _)
      | (with_reducible exact LeO.none _)
      | (with_reducible refine LeO.ite ?_ ?_)
      | (with_reducible refine LeO.bind ?_ (fun _ => ?_))
      | exact ih0 _ _ _ _ _ _
      | exact ih1 _ _ _ _ _ _
      | exact ih2 _ _ _ _ _ _
      | exact spec_qrAlign.mono _ _ _ _
      | exact LeO.none _
      | refine LeO.ite ?_ ?_
      | refine LeO.bind ?_ (fun _ => ?_)
set_option maxHeartbeats 8000000 in
set_option maxRecDepth 100000 in
theorem spec_qrGiven.calls (k : Nat) (a0 : Int) (A1 : Option Addr) (c1 : Nat) (l1 : List Int) (a2 : Int) (a3 : Int) (r : Bool) (w : World) (hr1 : Kd.C (Kd.int .i64) w A1 l1.length l1) (hc1 : l1.length ≤ c1) (h : spec_qrGiven.f k a0 l1 a2 a3 = some r) :
    Calls Tryz.prog 49 #[.int .i64 a0, .slice A1 l1.length c1, .int .i64 a2, .int .i64 a3] w fun e w' => e = .returned (.bool r) ∧ Below w.heap.size w w' := by
  have HR1 := Aside0.mk hr1
  have HC1 := Aside0.mk hc1
  clear hr1 hc1
  have HB := Aside0.mk (Below.refl w.heap.size w)
  have H : ((spec_QRDimension.f a0).bind fun t304 => (if a2 ≤ 8 then (if a3 ≤ 8 then (spec_qrGiven.j0 k a0 l1 a2 a3 t304 true) else (spec_qrGiven.j0 k a0 l1 a2 a3 t304 (decide (a3 ≥ (wrap64 (t304 - 8)))))) else (spec_qrGiven.j0 k a0 l1 a2 a3 t304 false))) = some r := h
  clear h
  replace H := Option.bind_eq_some_iff.mp H
  obtain ⟨t304, A50, H⟩ := H
  replace H : (if a2 ≤ 8 then (if a3 ≤ 8 then (spec_qrGiven.j0 k a0 l1 a2 a3 t304 true) else (spec_qrGiven.j0 k a0 l1 a2 a3 t304 (decide (a3 ≥ (wrap64 (t304 - 8)))))) else (spec_qrGiven.j0 k a0 l1 a2 a3 t304 false)) = some r := H
  have A5 := Aside0.mk A50
  clear A50
  have HC6 := Aside0.mk H
  clear H
  go_enter Tryz.func49, Tryz.ntmps49
  go_upto_region 2 with (first | ((with_reducible refine gate_callee (f := 46) rfl ?_); refine goesL_ (some 11) rfl rfl Tryz.func46 (by kernel_rfl) rfl #[.int .i64 a0] rfl (by (try simp only [List.map_toArray, List.map_cons, List.map_nil]); first | done | rfl | (simp only [List.length_drop, List.length_take]; rfl)) ?_; (with_reducible refine (spec_QRDimension.calls a0 t304 _ A5.out).mono ?_); rintro e w' ⟨rfl, ⟨nd, rfl⟩⟩; refine ⟨_, rfl, ?_⟩))
  (try simp only [Act.put, List.setIfInBounds_toArray, List.set_cons_zero, List.set_cons_succ])
  go_cut [12] (fun v12 wc => ∃ (kq : Nat) (x12_5 : Bool), v12 = .bool x12_5 ∧ Aside0 (spec_qrGiven.j0 kq a0 l1 a2 a3 t304 x12_5 = some r) ∧ Aside0 (kq ≤ k) ∧ Aside0 (Below w.heap.size w wc))
  case first =>
    have H := HC6.out
    clear HC6
    by_cases c7 : a2 ≤ 8
    · rw [if_pos c7] at H
      have c7b0 : decide (a2 ≤ 8) = true := decide_eq_true c7
      clear c7
      (first | rw [c7b0] | (simp only [i64_w, i32_w]; rw [c7b0]) | skip)
      by_cases c8 : a3 ≤ 8
      · rw [if_pos c8] at H
        have c8b0 : decide (a3 ≤ 8) = true := decide_eq_true c8
        clear c8
        have H' := Aside0.mk H
        clear H
        go_wp2
        go_meet
        case rel => exact ⟨_, (true), (by first | rfl | (simp; done) | (simp [*]; done)), H', ⟨by first | omega | exact Nat.le_refl _⟩, ⟨by repeat (first | (with_reducible first | exact HB.out | apply below_alloc | apply pw_below_drewN | apply below_drew1) | exact HB.out)⟩⟩
      · rw [if_neg c8] at H
        have c8b0 : decide (a3 ≤ 8) = false := decide_eq_false c8
        clear c8
        have H' := Aside0.mk H
        clear H
        go_wp2
        go_meet
        case rel => exact ⟨_, (decide (a3 ≥ (wrap64 (t304 - 8)))), (by first | rfl | (simp; done) | (simp [*]; done)), H', ⟨by first | omega | exact Nat.le_refl _⟩, ⟨by repeat (first | (with_reducible first | exact HB.out | apply below_alloc | apply pw_below_drewN | apply below_drew1) | exact HB.out)⟩⟩
    · rw [if_neg c7] at H
      have c7b0 : decide (a2 ≤ 8) = false := decide_eq_false c7
      clear c7
      (first | rw [c7b0] | (simp only [i64_w, i32_w]; rw [c7b0]) | skip)
      have H' := Aside0.mk H
      clear H
      go_wp2
      go_meet
      case rel => exact ⟨_, (false), (by first | rfl | (simp; done) | (simp [*]; done)), H', ⟨by first | omega | exact Nat.le_refl _⟩, ⟨by repeat (first | (with_reducible first | exact HB.out | apply below_alloc | apply pw_below_drewN | apply below_drew1) | exact HB.out)⟩⟩
  case rest =>
    clear HC6
    try clear c1
    try clear p2
    try clear c4
    try clear p6
    try clear c7
    try clear c7b0
    try clear c8
    try clear c8b0
    obtain ⟨kq, x12_5, rfl, HA, HJ5, HB⟩ := hcut
    cases kq with
    | zero => exact absurd HA.out (by simp [spec_qrGiven.j0])
    | succ kj5 =>
      have H := HA.out
      clear HA
      simp only [spec_qrGiven.j0] at H
      have HC9 := Aside0.mk H
      clear H
      go_upto_if 12 with (fail)
      go_cut [12] (fun v12 wc => ∃ (kq : Nat) (x12_8 : Bool), v12 = .bool x12_8 ∧ Aside0 (spec_qrGiven.j2 kq a0 l1 a2 a3 t304 x12_8 = some r) ∧ Aside0 (kq ≤ kj5) ∧ Aside0 (Below w.heap.size w wc))
      case first =>
        have H := HC9.out
        clear HC9
        by_cases c10 : x12_5 = true
        · subst c10
          have H1 : (spec_qrGiven.j2 kj5 a0 l1 a2 a3 t304 true) = some r := by rw [if_pos rfl] at H; exact H
          clear H
          have H := H1
          clear H1
          have H' := Aside0.mk H
          clear H
          go_wp2
          go_meet
          case rel => exact ⟨_, (true), (by first | rfl | (simp; done) | (simp [*]; done)), H', ⟨by have := HJ5.out; first | omega | exact Nat.le_refl _⟩, ⟨by repeat (first | (with_reducible first | exact HB.out | apply below_alloc | apply pw_below_drewN | apply below_drew1) | exact HB.out)⟩⟩
        · replace c10 := Bool.eq_false_iff.mpr c10
          subst c10
          have H1 : (if a2 ≥ (wrap64 (t304 - 8)) then (spec_qrGiven.j1 kj5 a0 l1 a2 a3 t304 (decide (a3 ≤ 8))) else (spec_qrGiven.j1 kj5 a0 l1 a2 a3 t304 false)) = some r := by rw [if_neg (show ¬ (false = true) by decide)] at H; exact H
          clear H
          have H := H1
          clear H1
          have HC11 := Aside0.mk H
          clear H
          go_upto_region 3 with (fail)
          go_cut [12] (fun v12 wc => ∃ (kq : Nat) (x12_10 : Bool), v12 = .bool x12_10 ∧ Aside0 (spec_qrGiven.j1 kq a0 l1 a2 a3 t304 x12_10 = some r) ∧ Aside0 (kq ≤ kj5) ∧ Aside0 (Below w.heap.size w wc))
          case first =>
            have H := HC11.out
            clear HC11
            by_cases c12 : a2 ≥ (wrap64 (t304 - 8))
            · rw [if_pos c12] at H
              have c12b0 : decide ((wrap64 (t304 - 8)) ≤ a2) = true := decide_eq_true c12
              clear c12
              (first | rw [c12b0] | (simp only [i64_w, i32_w]; rw [c12b0]) | skip)
              have H' := Aside0.mk H
              clear H
              go_wp2
              go_meet
              case rel => exact ⟨_, (decide (a3 ≤ 8)), (by first | rfl | (simp; done) | (simp [*]; done)), H', ⟨by have := HJ5.out; first | omega | exact Nat.le_refl _⟩, ⟨by repeat (first | (with_reducible first | exact HB.out | apply below_alloc | apply pw_below_drewN | apply below_drew1) | exact HB.out)⟩⟩
            · rw [if_neg c12] at H
              have c12b0 : decide ((wrap64 (t304 - 8)) ≤ a2) = false := decide_eq_false c12
              clear c12
              (first | rw [c12b0] | (simp only [i64_w, i32_w]; rw [c12b0]) | skip)
              have H' := Aside0.mk H
              clear H
              go_wp2
              go_meet
              case rel => exact ⟨_, (false), (by first | rfl | (simp; done) | (simp [*]; done)), H', ⟨by have := HJ5.out; first | omega | exact Nat.le_refl _⟩, ⟨by repeat (first | (with_reducible first | exact HB.out | apply below_alloc | apply pw_below_drewN | apply below_drew1) | exact HB.out)⟩⟩
          case rest =>
            clear HC11
            try clear c1
            try clear p2
            try clear c4
            try clear p6
            try clear c7
            try clear c7b0
            try clear c8
            try clear c8b0
            try clear c10
            try clear c12
            try clear c12b0
            try clear p2
            try clear p6
            obtain ⟨kq, x12_10, rfl, HA, HJ10, HB⟩ := hcut
            cases kq with
            | zero => exact absurd HA.out (by simp [spec_qrGiven.j1])
            | succ kj10 =>
              have H := HA.out
              clear HA
              simp only [spec_qrGiven.j1] at H
              by_cases c13 : x12_10 = true
              · subst c13
                have H1 : (spec_qrGiven.j2 kj10 a0 l1 a2 a3 t304 true) = some r := by rw [if_pos rfl] at H; exact H
                clear H
                have H := H1
                clear H1
                have H' := Aside0.mk H
                clear H
                go_wp2
                go_meet
                case rel => exact ⟨_, (true), (by first | rfl | (simp; done) | (simp [*]; done)), H', ⟨by have := HJ5.out; have := HJ10.out; first | omega | exact Nat.le_refl _⟩, ⟨by repeat (first | (with_reducible first | exact HB.out | apply below_alloc | apply pw_below_drewN | apply below_drew1) | exact HB.out)⟩⟩
              · replace c13 := Bool.eq_false_iff.mpr c13
                subst c13
                have H1 : (if a2 = 6 then (spec_qrGiven.j2 kj10 a0 l1 a2 a3 t304 (a2 == 6)) else (spec_qrGiven.j2 kj10 a0 l1 a2 a3 t304 (a3 == 6))) = some r := by rw [if_neg (show ¬ (false = true) by decide)] at H; exact H
                clear H
                have H := H1
                clear H1
                by_cases c14 : a2 = 6
                · rw [if_pos c14] at H
                  have c14b0 : (a2 == 6) = true := beq_iff_eq.mpr c14
                  have c14b1 : (a2 != 6) = false := bne_eq_false_iff_eq.mpr c14
                  clear c14
                  have H' := Aside0.mk H
                  clear H
                  go_wp2
                  go_meet
                  case rel => exact ⟨_, ((a2 == 6)), (by first | rfl | (simp; done) | (simp [*]; done)), H', ⟨by have := HJ5.out; have := HJ10.out; first | omega | exact Nat.le_refl _⟩, ⟨by repeat (first | (with_reducible first | exact HB.out | apply below_alloc | apply pw_below_drewN | apply below_drew1) | exact HB.out)⟩⟩
                · rw [if_neg c14] at H
                  have c14b0 : (a2 == 6) = false := beq_eq_false_iff_ne.mpr c14
                  have c14b1 : (a2 != 6) = true := bne_iff_ne.mpr c14
                  have H' := Aside0.mk H
                  clear H
                  go_wp2
                  go_meet
                  case rel => exact ⟨_, ((a3 == 6)), (by first | rfl | (simp; done) | (simp [*]; done)), H', ⟨by have := HJ5.out; have := HJ10.out; first | omega | exact Nat.le_refl _⟩, ⟨by repeat (first | (with_reducible first | exact HB.out | apply below_alloc | apply pw_below_drewN | apply below_drew1) | exact HB.out)⟩⟩
      case rest =>
        clear HC9
        try clear c1
        try clear p2
        try clear c4
        try clear p6
        try clear c7
        try clear c7b0
        try clear c8
        try clear c8b0
        try clear c10
        try clear c12
        try clear c12b0
        try clear c13
        try clear c14
        try clear c14b0
        try clear c14b1
        try clear p2
        try clear p6
        obtain ⟨kq, x12_8, rfl, HA, HJ8, HB⟩ := hcut
        cases kq with
        | zero => exact absurd HA.out (by simp [spec_qrGiven.j2])
        | succ kj8 =>
          have H := HA.out
          clear HA
          simp only [spec_qrGiven.j2] at H
          by_cases c15 : x12_8 = true
          · subst c15
            have H1 : (some true) = some r := by rw [if_pos rfl] at H; exact H
            clear H
            have H := H1
            clear H1
            obtain rfl := Option.some.inj H
            go_wp2
            go_ret
            exact ⟨by first | rfl | (simp [errW_none, errW_some] <;> rfl) | (simp [*, errW_none, errW_some] <;> rfl), by repeat (first | (with_reducible first | exact HB.out | apply below_alloc | apply pw_below_drewN | apply below_drew1) | exact HB.out)⟩
          · replace c15 := Bool.eq_false_iff.mpr c15
            subst c15
            have H1 : (if a0 ≥ 7 then (if a2 ≤ 5 then (if a3 ≥ (wrap64 (t304 - 11)) then (some true) else (if a3 ≤ 5 then (if a2 ≥ (wrap64 (t304 - 11)) then (some true) else ((spec_qrAlign.f kj8 l1 a2 a3).bind fun t305 => (some (decide (t305 ≥ 0))))) else ((spec_qrAlign.f kj8 l1 a2 a3).bind fun t306 => (some (decide (t306 ≥ 0)))))) else (if a3 ≤ 5 then (if a2 ≥ (wrap64 (t304 - 11)) then (some true) else ((spec_qrAlign.f kj8 l1 a2 a3).bind fun t307 => (some (decide (t307 ≥ 0))))) else ((spec_qrAlign.f kj8 l1 a2 a3).bind fun t308 => (some (decide (t308 ≥ 0)))))) else ((spec_qrAlign.f kj8 l1 a2 a3).bind fun t309 => (some (decide (t309 ≥ 0))))) = some r := by rw [if_neg (show ¬ (false = true) by decide)] at H; exact H
            clear H
            have H := H1
            clear H1
            by_cases c16 : a0 ≥ 7
            · rw [if_pos c16] at H
              have c16b0 : decide (7 ≤ a0) = true := decide_eq_true c16
              clear c16
              by_cases c17 : a2 ≤ 5
              · rw [if_pos c17] at H
                have c17b0 : decide (a2 ≤ 5) = true := decide_eq_true c17
                clear c17
                by_cases c18 : a3 ≥ (wrap64 (t304 - 11))
                · rw [if_pos c18] at H
                  have c18b0 : decide ((wrap64 (t304 - 11)) ≤ a3) = true := decide_eq_true c18
                  clear c18
                  obtain rfl := Option.some.inj H
                  go_wp2
                  go_ret
                  exact ⟨by first | rfl | (simp [errW_none, errW_some] <;> rfl) | (simp [*, errW_none, errW_some] <;> rfl), by repeat (first | (with_reducible first | exact HB.out | apply below_alloc | apply pw_below_drewN | apply below_drew1) | exact HB.out)⟩
                · rw [if_neg c18] at H
                  have c18b0 : decide ((wrap64 (t304 - 11)) ≤ a3) = false := decide_eq_false c18
                  clear c18
                  by_cases c19 : a3 ≤ 5
                  · rw [if_pos c19] at H
                    have c19b0 : decide (a3 ≤ 5) = true := decide_eq_true c19
                    clear c19
                    by_cases c20 : a2 ≥ (wrap64 (t304 - 11))
                    · rw [if_pos c20] at H
                      have c20b0 : decide ((wrap64 (t304 - 11)) ≤ a2) = true := decide_eq_true c20
                      clear c20
                      obtain rfl := Option.some.inj H
                      go_wp2
                      go_ret
                      exact ⟨by first | rfl | (simp [errW_none, errW_some] <;> rfl) | (simp [*, errW_none, errW_some] <;> rfl), by repeat (first | (with_reducible first | exact HB.out | apply below_alloc | apply pw_below_drewN | apply below_drew1) | exact HB.out)⟩
                    · rw [if_neg c20] at H
                      have c20b0 : decide ((wrap64 (t304 - 11)) ≤ a2) = false := decide_eq_false c20
                      clear c20
                      replace H := Option.bind_eq_some_iff.mp H
                      obtain ⟨t305, A210, H⟩ := H
                      replace H : (some (decide (t305 ≥ 0))) = some r := H
                      have A21 := Aside0.mk A210
                      clear A210
                      obtain rfl := Option.some.inj H
                      go_wp2_with (first | ((with_reducible refine gate_callee (f := 96) rfl ?_); refine goesL_ (some 63) rfl rfl Tryz.func96 (by kernel_rfl) rfl #[.slice A1 l1.length c1, .int .i64 a2, .int .i64 a3] rfl (by (try simp only [List.map_toArray, List.map_cons, List.map_nil]); first | done | rfl | (simp only [List.length_drop, List.length_take]; rfl)) ?_; (with_reducible refine (spec_qrAlign.calls kj8 _ _ l1 a2 a3 t305 _ ?side1 ?side2 A21.out).mono ?_); (case side1 => repeat (first | exact (Kd.C_below HR1.out HB.out) | (with_reducible refine Kd.C_alloc ?_ _) | (with_reducible refine Kd.C_drewN ?_ _) | (with_reducible refine Kd.C_drew ?_))); (case side2 => exact HC1.out); rintro e w22 ⟨rfl, hb⟩; refine ⟨_, rfl, ?_⟩; have n0_ := Aside0.mk (below_step (by repeat (first | (with_reducible first | exact HB.out | apply below_alloc | apply pw_below_drewN | apply below_drew1) | exact HB.out)) hb); clear HB; have HB := n0_; clear n0_; (try clear hb); (try clear hb2); (try clear hk); (try clear hi)))
                      go_ret
                      exact ⟨by first | rfl | (simp [errW_none, errW_some] <;> rfl) | (simp [*, errW_none, errW_some] <;> rfl), by repeat (first | (with_reducible first | exact HB.out | apply below_alloc | apply pw_below_drewN | apply below_drew1) | exact HB.out)⟩
                  · rw [if_neg c19] at H
                    have c19b0 : decide (a3 ≤ 5) = false := decide_eq_false c19
                    clear c19
                    replace H := Option.bind_eq_some_iff.mp H
                    obtain ⟨t306, A230, H⟩ := H
                    replace H : (some (decide (t306 ≥ 0))) = some r := H
                    have A23 := Aside0.mk A230
                    clear A230
                    obtain rfl := Option.some.inj H
                    go_wp2_with (first | ((with_reducible refine gate_callee (f := 96) rfl ?_); refine goesL_ (some 63) rfl rfl Tryz.func96 (by kernel_rfl) rfl #[.slice A1 l1.length c1, .int .i64 a2, .int .i64 a3] rfl (by (try simp only [List.map_toArray, List.map_cons, List.map_nil]); first | done | rfl | (simp only [List.length_drop, List.length_take]; rfl)) ?_; (with_reducible refine (spec_qrAlign.calls kj8 _ _ l1 a2 a3 t306 _ ?side1 ?side2 A23.out).mono ?_); (case side1 => repeat (first | exact (Kd.C_below HR1.out HB.out) | (with_reducible refine Kd.C_alloc ?_ _) | (with_reducible refine Kd.C_drewN ?_ _) | (with_reducible refine Kd.C_drew ?_))); (case side2 => exact HC1.out); rintro e w24 ⟨rfl, hb⟩; refine ⟨_, rfl, ?_⟩; have n0_ := Aside0.mk (below_step (by repeat (first | (with_reducible first | exact HB.out | apply below_alloc | apply pw_below_drewN | apply below_drew1) | exact HB.out)) hb); clear HB; have HB := n0_; clear n0_; (try clear hb); (try clear hb2); (try clear hk); (try clear hi)))
                    go_ret
                    exact ⟨by first | rfl | (simp [errW_none, errW_some] <;> rfl) | (simp [*, errW_none, errW_some] <;> rfl), by repeat (first | (with_reducible first | exact HB.out | apply below_alloc | apply pw_below_drewN | apply below_drew1) | exact HB.out)⟩
              · rw [if_neg c17] at H
                have c17b0 : decide (a2 ≤ 5) = false := decide_eq_false c17
                clear c17
                by_cases c25 : a3 ≤ 5
                · rw [if_pos c25] at H
                  have c25b0 : decide (a3 ≤ 5) = true := decide_eq_true c25
                  clear c25
                  by_cases c26 : a2 ≥ (wrap64 (t304 - 11))
                  · rw [if_pos c26] at H
                    have c26b0 : decide ((wrap64 (t304 - 11)) ≤ a2) = true := decide_eq_true c26
                    clear c26
                    obtain rfl := Option.some.inj H
                    go_wp2
                    go_ret
                    exact ⟨by first | rfl | (simp [errW_none, errW_some] <;> rfl) | (simp [*, errW_none, errW_some] <;> rfl), by repeat (first | (with_reducible first | exact HB.out | apply below_alloc | apply pw_below_drewN | apply below_drew1) | exact HB.out)⟩
                  · rw [if_neg c26] at H
                    have c26b0 : decide ((wrap64 (t304 - 11)) ≤ a2) = false := decide_eq_false c26
                    clear c26
                    replace H := Option.bind_eq_some_iff.mp H
                    obtain ⟨t307, A270, H⟩ := H
                    replace H : (some (decide (t307 ≥ 0))) = some r := H
                    have A27 := Aside0.mk A270
                    clear A270
                    obtain rfl := Option.some.inj H
                    go_wp2_with (first | ((with_reducible refine gate_callee (f := 96) rfl ?_); refine goesL_ (some 63) rfl rfl Tryz.func96 (by kernel_rfl) rfl #[.slice A1 l1.length c1, .int .i64 a2, .int .i64 a3] rfl (by (try simp only [List.map_toArray, List.map_cons, List.map_nil]); first | done | rfl | (simp only [List.length_drop, List.length_take]; rfl)) ?_; (with_reducible refine (spec_qrAlign.calls kj8 _ _ l1 a2 a3 t307 _ ?side1 ?side2 A27.out).mono ?_); (case side1 => repeat (first | exact (Kd.C_below HR1.out HB.out) | (with_reducible refine Kd.C_alloc ?_ _) | (with_reducible refine Kd.C_drewN ?_ _) | (with_reducible refine Kd.C_drew ?_))); (case side2 => exact HC1.out); rintro e w28 ⟨rfl, hb⟩; refine ⟨_, rfl, ?_⟩; have n0_ := Aside0.mk (below_step (by repeat (first | (with_reducible first | exact HB.out | apply below_alloc | apply pw_below_drewN | apply below_drew1) | exact HB.out)) hb); clear HB; have HB := n0_; clear n0_; (try clear hb); (try clear hb2); (try clear hk); (try clear hi)))
                    go_ret
                    exact ⟨by first | rfl | (simp [errW_none, errW_some] <;> rfl) | (simp [*, errW_none, errW_some] <;> rfl), by repeat (first | (with_reducible first | exact HB.out | apply below_alloc | apply pw_below_drewN | apply below_drew1) | exact HB.out)⟩
                · rw [if_neg c25] at H
                  have c25b0 : decide (a3 ≤ 5) = false := decide_eq_false c25
                  clear c25
                  replace H := Option.bind_eq_some_iff.mp H
                  obtain ⟨t308, A290, H⟩ := H
                  replace H : (some (decide (t308 ≥ 0))) = some r := H
                  have A29 := Aside0.mk A290
                  clear A290
                  obtain rfl := Option.some.inj H
                  go_wp2_with (first | ((with_reducible refine gate_callee (f := 96) rfl ?_); refine goesL_ (some 63) rfl rfl Tryz.func96 (by kernel_rfl) rfl #[.slice A1 l1.length c1, .int .i64 a2, .int .i64 a3] rfl (by (try simp only [List.map_toArray, List.map_cons, List.map_nil]); first | done | rfl | (simp only [List.length_drop, List.length_take]; rfl)) ?_; (with_reducible refine (spec_qrAlign.calls kj8 _ _ l1 a2 a3 t308 _ ?side1 ?side2 A29.out).mono ?_); (case side1 => repeat (first | exact (Kd.C_below HR1.out HB.out) | (with_reducible refine Kd.C_alloc ?_ _) | (with_reducible refine Kd.C_drewN ?_ _) | (with_reducible refine Kd.C_drew ?_))); (case side2 => exact HC1.out); rintro e w30 ⟨rfl, hb⟩; refine ⟨_, rfl, ?_⟩; have n0_ := Aside0.mk (below_step (by repeat (first | (with_reducible first | exact HB.out | apply below_alloc | apply pw_below_drewN | apply below_drew1) | exact HB.out)) hb); clear HB; have HB := n0_; clear n0_; (try clear hb); (try clear hb2); (try clear hk); (try clear hi)))
                  go_ret
                  exact ⟨by first | rfl | (simp [errW_none, errW_some] <;> rfl) | (simp [*, errW_none, errW_some] <;> rfl), by repeat (first | (with_reducible first | exact HB.out | apply below_alloc | apply pw_below_drewN | apply below_drew1) | exact HB.out)⟩
            · rw [if_neg c16] at H
              have c16b0 : decide (7 ≤ a0) = false := decide_eq_false c16
              clear c16
              replace H := Option.bind_eq_some_iff.mp H
              obtain ⟨t309, A310, H⟩ := H
              replace H : (some (decide (t309 ≥ 0))) = some r := H
              have A31 := Aside0.mk A310
              clear A310
              obtain rfl := Option.some.inj H
              go_wp2_with (first | ((with_reducible refine gate_callee (f := 96) rfl ?_); refine goesL_ (some 63) rfl rfl Tryz.func96 (by kernel_rfl) rfl #[.slice A1 l1.length c1, .int .i64 a2, .int .i64 a3] rfl (by (try simp only [List.map_toArray, List.map_cons, List.map_nil]); first | done | rfl | (simp only [List.length_drop, List.length_take]; rfl)) ?_; (with_reducible refine (spec_qrAlign.calls kj8 _ _ l1 a2 a3 t309 _ ?side1 ?side2 A31.out).mono ?_); (case side1 => repeat (first | exact (Kd.C_below HR1.out HB.out) | (with_reducible refine Kd.C_alloc ?_ _) | (with_reducible refine Kd.C_drewN ?_ _) | (with_reducible refine Kd.C_drew ?_))); (case side2 => exact HC1.out); rintro e w32 ⟨rfl, hb⟩; refine ⟨_, rfl, ?_⟩; have n0_ := Aside0.mk (below_step (by repeat (first | (with_reducible first | exact HB.out | apply below_alloc | apply pw_below_drewN | apply below_drew1) | exact HB.out)) hb); clear HB; have HB := n0_; clear n0_; (try clear hb); (try clear hb2); (try clear hk); (try clear hi)))
              go_ret
              exact ⟨by first | rfl | (simp [errW_none, errW_some] <;> rfl) | (simp [*, errW_none, errW_some] <;> rfl), by repeat (first | (with_reducible first | exact HB.out | apply below_alloc | apply pw_below_drewN | apply below_drew1) | exact HB.out)⟩

/-- THE ONE PURE STATEMENT of spec_qrGiven: yours. -/
def spec_qrGiven.Pure : Prop := ∀ (a0 : Int) (l1 : List Int) (a2 : Int) (a3 : Int), (Lit.int .i64 a0).wf = true → l1.length ≤ maxLen → l1.length * 8 ≤ 140737488351232 → (∀ x ∈ l1, (Lit.int .i64 x).wf = true) → (Lit.int .i64 a2).wf = true → (Lit.int .i64 a3).wf = true → ∃ k, spec_qrGiven.f k a0 l1 a2 a3 = some true
theorem spec_qrGiven.walk (P : spec_qrGiven.Pure) (a0 : Int) (a1 : Option Addr) (len1 cap1 : Nat) (z1 : List Int) (a2 : Int) (a3 : Int) (w : World) (w0 : (Lit.int .i64 a0).wf = true) (w1 : (a1 = none ∧ len1 = 0 ∧ cap1 = 0 ∧ z1 = []) ∨ ∃ x, a1 = some x ∧ len1 ≤ cap1 ∧ cap1 ≤ maxLen ∧ z1.length = cap1 ∧ (∀ i, i < z1.length → w.cell? (x.add i) = some (.int .i64 (z1.getD i 0))) ∧ ∀ n ∈ z1, (Lit.int .i64 n).wf = true) (y1 : len1 * 8 ≤ 140737488351232) (w2 : (Lit.int .i64 a2).wf = true) (w3 : (Lit.int .i64 a3).wf = true) :
    Calls Tryz.prog 49 #[.int .i64 a0, .slice a1 len1 cap1, .int .i64 a2, .int .i64 a3] w fun e w' => e = .returned (.bool true) ∧ Below w.heap.size w w' := by
  obtain ⟨l1, rfl, hr1, hm1, hw1, hc1⟩ := ReadsInt.ofRowC w1
  obtain ⟨k, h⟩ := P a0 l1 a2 a3 w0 hm1 y1 hw1 w2 w3
  refine (spec_qrGiven.calls k a0 _ _ l1 a2 a3 true w (Kd.C_of_reads (d := (0 : Int)) (h1 := fun _ => rfl) hr1) hc1 h).mono ?_
  rintro e w' ⟨rfl, hd⟩
  exact ⟨rfl, hd⟩

/-! ### spec_qrFormatAt: function 97 -/
mutual
def spec_qrFormatAt.j0 : Nat → Int → Int → Int → Bool → Option (Int)
  | 0, _, _, _, _ => none
  | k + 1, x0, x1, x2, x7 => if x7 = true then (some x1) else (if x2 = 8 then (spec_qrFormatAt.j1 k x0 x1 x2 (x1 == 7)) else (spec_qrFormatAt.j1 k x0 x1 x2 false))
def spec_qrFormatAt.j1 : Nat → Int → Int → Int → Bool → Option (Int)
  | 0, _, _, _, _ => none
  | k + 1, x0, x1, x2, x15 => if x15 = true then (some 6) else (if x2 = 8 then (spec_qrFormatAt.j2 k x0 x1 x2 (x1 == 8)) else (spec_qrFormatAt.j2 k x0 x1 x2 false))
def spec_qrFormatAt.j2 : Nat → Int → Int → Int → Bool → Option (Int)
  | 0, _, _, _, _ => none
  | k + 1, x0, x1, x2, x22 => if x22 = true then (some 7) else (if x1 = 8 then (spec_qrFormatAt.j3 k x0 x1 x2 (x2 == 7)) else (spec_qrFormatAt.j3 k x0 x1 x2 false))
def spec_qrFormatAt.j3 : Nat → Int → Int → Int → Bool → Option (Int)
  | 0, _, _, _, _ => none
  | k + 1, x0, x1, x2, x29 => if x29 = true then (some 8) else (if x1 = 8 then (spec_qrFormatAt.j4 k x0 x1 x2 (decide (x2 ≤ 5))) else (spec_qrFormatAt.j4 k x0 x1 x2 false))
def spec_qrFormatAt.j4 : Nat → Int → Int → Int → Bool → Option (Int)
  | 0, _, _, _, _ => none
  | k + 1, x0, x1, x2, x36 => if x36 = true then (some (wrap64 (14 - x2))) else (if x1 = 8 then (spec_qrFormatAt.j5 k x0 x1 x2 (decide (x2 ≥ (wrap64 (x0 - 8))))) else (spec_qrFormatAt.j5 k x0 x1 x2 false))
def spec_qrFormatAt.j5 : Nat → Int → Int → Int → Bool → Option (Int)
  | 0, _, _, _, _ => none
  | k + 1, x0, x1, x2, x45 => if x45 = true then (some (wrap64 ((wrap64 (x0 - 1)) - x2))) else (if x2 = 8 then (if x1 ≥ (wrap64 (x0 - 7)) then (some (wrap64 ((wrap64 (x1 - x0)) + 15))) else (some (-1))) else (some (-1)))
end
def spec_qrFormatAt.f (k : Nat) (a0 : Int) (a1 : Int) (a2 : Int) : Option (Int) := if a2 = 8 then (spec_qrFormatAt.j0 k a0 a1 a2 (decide (a1 ≤ 5))) else (spec_qrFormatAt.j0 k a0 a1 a2 false)
theorem spec_qrFormatAt.mono_l : ∀ k, (∀ y0 y1 y2 y3, LeO (spec_qrFormatAt.j0 k y0 y1 y2 y3) (spec_qrFormatAt.j0 (k + 1) y0 y1 y2 y3)) ∧ (∀ y0 y1 y2 y3, LeO (spec_qrFormatAt.j1 k y0 y1 y2 y3) (spec_qrFormatAt.j1 (k + 1) y0 y1 y2 y3)) ∧ (∀ y0 y1 y2 y3, LeO (spec_qrFormatAt.j2 k y0 y1 y2 y3) (spec_qrFormatAt.j2 (k + 1) y0 y1 y2 y3)) ∧ (∀ y0 y1 y2 y3, LeO (spec_qrFormatAt.j3 k y0 y1 y2 y3) (spec_qrFormatAt.j3 (k + 1) y0 y1 y2 y3)) ∧ (∀ y0 y1 y2 y3, LeO (spec_qrFormatAt.j4 k y0 y1 y2 y3) (spec_qrFormatAt.j4 (k + 1) y0 y1 y2 y3)) ∧ (∀ y0 y1 y2 y3, LeO (spec_qrFormatAt.j5 k y0 y1 y2 y3) (spec_qrFormatAt.j5 (k + 1) y0 y1 y2 y3))
  | 0 => ⟨fun _ _ _ _ r h => by simp [spec_qrFormatAt.j0] at h, fun _ _ _ _ r h => by simp [spec_qrFormatAt.j1] at h, fun _ _ _ _ r h => by simp [spec_qrFormatAt.j2] at h, fun _ _ _ _ r h => by simp [spec_qrFormatAt.j3] at h, fun _ _ _ _ r h => by simp [spec_qrFormatAt.j4] at h, fun _ _ _ _ r h => by simp [spec_qrFormatAt.j5] at h⟩
  | k + 1 => by
    obtain ⟨ih0, ih1, ih2, ih3, ih4, ih5⟩ := spec_qrFormatAt.mono_l k
    refine ⟨?_, ?_, ?_, ?_, ?_, ?_⟩
    · intro y0 y1 y2 y3
      unfold spec_qrFormatAt.j0
      repeat' first
      | (with_reducible exact ih0 _ _ _ _)
      | (with_reducible exact ih1 _ _ _ _)
      | (with_reducible exact ih2 _ _ _ _)
      | (with_reducible exact ih3 _ _ _ _)
      | (with_reducible exact ih4 _ _ _ _)
      | (with_reducible exact ih5 _ _ _ _)
      | (with_reducible exact LeO.refl _)
      | (with_reducible exact LeO.none _)
      | (with_reducible refine LeO.ite ?_ ?_)
      | (with_reducible refine LeO.bind ?_ (fun _ => ?_))
      | exact ih0 _ _ _ _
      | exact ih1 _ _ _ _
      | exact ih2 _ _ _ _
      | exact ih3 _ _ _ _
      | exact ih4 _ _ _ _
      | exact ih5 _ _ _ _
      | exact LeO.none _
      | refine LeO.ite ?_ ?_
      | refine LeO.bind ?_ (fun _ => ?_)
    · intro y0 y1 y2 y3
      unfold spec_qrFormatAt.j1
      repeat' first
      | (with_reducible exact ih0 _ _ _ _)
      | (with_reducible exact ih1 _ _ _ _)
      | (with_reducible exact ih2 _ _ _ _)
      | (with_reducible exact ih3 _ _ _ _)
      | (with_reducible exact ih4 _ _ _ _)
      | (with_reducible exact ih5 _ _ _ _)
      | (with_reducible exact LeO.refl _)
      | (with_reducible exact LeO.none _)
      | (with_reducible refine LeO.ite ?_ ?_)
      | (with_reducible refine LeO.bind ?_ (fun _ => ?_))
      | exact ih0 _ _ _ _
      | exact ih1 _ _ _ _
      | exact ih2 _ _ _ _
      | exact ih3 _ _ _ _
      | exact ih4 _ _ _ _
      | exact ih5 _ _ _ _
      | exact LeO.none _
      | refine LeO.ite ?_ ?_
      | refine LeO.bind ?_ (fun _ => ?_)
    · intro y0 y1 y2 y3
      unfold spec_qrFormatAt.j2
      repeat' first
      | (with_reducible exact ih0 _ _ _ _)
      | (with_reducible exact ih1 _ _ _ _)
      | (with_reducible exact ih2 _ _ _ _)
      | (with_reducible exact ih3 _ _ _ _)
      | (with_reducible exact ih4 _ _ _ _)
      | (with_reducible exact ih5 _ _ _ _)
      | (with_reducible exact LeO.refl _)
      | (with_reducible exact LeO.none _)
      | (with_reducible refine LeO.ite ?_ ?_)
      | (with_reducible refine LeO.bind ?_ (fun _ => ?_))
      | exact ih0 _ _ _ _
      | exact ih1 _ _ _ _
      | exact ih2 _ _ _ _
      | exact ih3 _ _ _ _
      | exact ih4 _ _ _ _
      | exact ih5 _ _ _ _
      | exact LeO.none _
      | refine LeO.ite ?_ ?_
      | refine LeO.bind ?_ (fun _ => ?_)
    · intro y0 y1 y2 y3
      unfold spec_qrFormatAt.j3
      repeat' first
      | (with_reducible exact ih0 _ _ _ _)
      | (with_reducible exact ih1 _ _ _ _)
      | (with_reducible exact ih2 _ _ _ _)
      | (with_reducible exact ih3 _ _ _ _)
      | (with_reducible exact ih4 _ _ _ _)
      | (with_reducible exact ih5 _ _ _ _)
      | (with_reducible exact LeO.refl _)
      | (with_reducible exact LeO.none _)
      | (with_reducible refine LeO.ite ?_ ?_)
      | (with_reducible refine LeO.bind ?_ (fun _ => ?_))
      | exact ih0 _ _ _ _
      | exact ih1 _ _ _ _
      | exact ih2 _ _ _ _
      | exact ih3 _ _ _ _
      | exact ih4 _ _ _ _
      | exact ih5 _ _ _ _
      | exact LeO.none _
      | refine LeO.ite ?_ ?_
      | refine LeO.bind ?_ (fun _ => ?_)
    · intro y0 y1 y2 y3
      unfold spec_qrFormatAt.j4
      repeat' first
      | (with_reducible exact ih0 _ _ _ _)
      | (with_reducible exact ih1 _ _ _ _)
      | (with_reducible exact ih2 _ _ _ _)
      | (with_reducible exact ih3 _ _ _ _)
      | (with_reducible exact ih4 _ _ _ _)
      | (with_reducible exact ih5 _ _ _ _)
      | (with_reducible exact LeO.refl _)
      | (with_reducible exact LeO.none _)
      | (with_reducible refine LeO.ite ?_ ?_)
      | (with_reducible refine LeO.bind ?_ (fun _ => ?_))
      | exact ih0 _ _ _ _
      | exact ih1 _ _ _ _
      | exact ih2 _ _ _ _
      | exact ih3 _ _ _ _
      | exact ih4 _ _ _ _
      | exact ih5 _ _ _ _
      | exact LeO.none _
      | refine LeO.ite ?_ ?_
      | refine LeO.bind ?_ (fun _ => ?_)
    · intro y0 y1 y2 y3
      unfold spec_qrFormatAt.j5
      repeat' first
      | (with_reducible exact ih0 _ _ _ _)
      | (with_reducible exact ih1 _ _ _ _)
      | (with_reducible exact ih2 _ _ _ _)
      | (with_reducible exact ih3 _ _ _ _)
      | (with_reducible exact ih4 _ _ _ _)
      | (with_reducible exact ih5 _ _ _ _)
      | (with_reducible exact LeO.refl _)
      | (with_reducible exact LeO.none _)
      | (with_reducible refine LeO.ite ?_ ?_)
      | (with_reducible refine LeO.bind ?_ (fun _ => ?_))
      | exact ih0 _ _ _ _
      | exact ih1 _ _ _ _
      | exact ih2 _ _ _ _
      | exact ih3 _ _ _ _
      | exact ih4 _ _ _ _
      | exact ih5 _ _ _ _
      | exact LeO.none _
      | refine LeO.ite ?_ ?_
      | refine LeO.bind ?_ (fun _ => ?_)
theorem spec_qrFormatAt.mono : ∀ a0 a1 a2 k, LeO (spec_qrFormatAt.f k a0 a1 a2) (spec_qrFormatAt.f (k + 1) a0 a1 a2) := by
  intro a0 a1 a2 k
  obtain ⟨ih0, ih1, ih2, ih3, ih4, ih5⟩ := spec_qrFormatAt.mono_l k
  unfold spec_qrFormatAt.f
  repeat' first
      | (with_reducible exact ih0 _ _ _ _)
      | (with_reducible exact ih1 _ _ _ _)
      | (with_reducible exact ih2 _ _ _ _)
      | (with_reducible exact ih3 _ _ _ _)
      | (with_reducible exact ih4 _ _ _ _)
      | (with_reducible exact ih5 _ _ _ _)
      | (with_reducible exact LeO.refl _)
      | (with_reducible exact LeO.none _)
      | (with_reducible refine LeO.ite ?_ ?_)
      | (with_reducible refine LeO.bind ?_ (fun _ => ?_))
      | exact ih0 _ _ _ _
      | exact ih1 _ _ _ _
      | exact ih2 _ _ _ _
      | exact ih3 _ _ _ _
      | exact ih4 _ _ _ _
      | exact ih5 _ _ _ _
      | exact LeO.none _
      | refine LeO.ite ?_ ?_
      | refine LeO.bind ?_ (fun _ => ?_)
set_option maxHeartbeats 8000000 in
set_option maxRecDepth 100000 in
theorem spec_qrFormatAt.calls (k : Nat) (a0 : Int) (a1 : Int) (a2 : Int) (r : Int) (w : World) (h : spec_qrFormatAt.f k a0 a1 a2 = some r) :
    Calls Tryz.prog 97 #[.int .i64 a0, .int .i64 a1, .int .i64 a2] w fun e w' => e = .returned (.int .i64 r) ∧ Drawn0 w w' := by
  have H : (if a2 = 8 then (spec_qrFormatAt.j0 k a0 a1 a2 (decide (a1 ≤ 5))) else (spec_qrFormatAt.j0 k a0 a1 a2 false)) = some r := h
  clear h
  have HC4 := Aside0.mk H
  clear H
  go_enter Tryz.func97, Tryz.ntmps97
  go_upto_region 1 with (fail)
  go_cut [7] (fun v7 wc => ∃ (kq : Nat) (x7_3 : Bool), v7 = .bool x7_3 ∧ Aside0 (spec_qrFormatAt.j0 kq a0 a1 a2 x7_3 = some r) ∧ Aside0 (kq ≤ k) ∧ Drawn0 w wc)
  case first =>
    have H := HC4.out
    clear HC4
    by_cases c5 : a2 = 8
    · rw [if_pos c5] at H
      have c5b0 : (a2 == 8) = true := beq_iff_eq.mpr c5
      have c5b1 : (a2 != 8) = false := bne_eq_false_iff_eq.mpr c5
      clear c5
      (first | rw [c5b0] | (simp only [i64_w, i32_w]; rw [c5b0]) | skip)
      have H' := Aside0.mk H
      clear H
      go_wp2
      go_meet
      case rel => exact ⟨_, (decide (a1 ≤ 5)), (by first | rfl | (simp; done) | (simp [*]; done)), H', ⟨by first | omega | exact Nat.le_refl _⟩, by repeat (first | exact Drawn0.refl _ | apply Drawn0.step)⟩
    · rw [if_neg c5] at H
      have c5b0 : (a2 == 8) = false := beq_eq_false_iff_ne.mpr c5
      have c5b1 : (a2 != 8) = true := bne_iff_ne.mpr c5
      (first | rw [c5b0] | (simp only [i64_w, i32_w]; rw [c5b0]) | skip)
      have H' := Aside0.mk H
      clear H
      go_wp2
      go_meet
      case rel => exact ⟨_, (false), (by first | rfl | (simp; done) | (simp [*]; done)), H', ⟨by first | omega | exact Nat.le_refl _⟩, by repeat (first | exact Drawn0.refl _ | apply Drawn0.step)⟩
  case rest =>
    clear HC4
    try clear p2
    try clear c5
    try clear c5b0
    try clear c5b1
    obtain ⟨kq, x7_3, rfl, HA, HJ3, ⟨mc3, rfl⟩⟩ := hcut
    cases kq with
    | zero => exact absurd HA.out (by simp [spec_qrFormatAt.j0])
    | succ kj3 =>
      have H := HA.out
      clear HA
      simp only [spec_qrFormatAt.j0] at H
      by_cases c6 : x7_3 = true
      · subst c6
        have H1 : (some a1) = some r := by rw [if_pos rfl] at H; exact H
        clear H
        have H := H1
        clear H1
        obtain rfl := Option.some.inj H
        go_wp2
        go_ret
        exact ⟨by first | rfl | (simp; done) | (simp [*]; done), by repeat (first | exact Drawn0.refl _ | apply Drawn0.step)⟩
      · replace c6 := Bool.eq_false_iff.mpr c6
        subst c6
        have H1 : (if a2 = 8 then (spec_qrFormatAt.j1 kj3 a0 a1 a2 (a1 == 7)) else (spec_qrFormatAt.j1 kj3 a0 a1 a2 false)) = some r := by rw [if_neg (show ¬ (false = true) by decide)] at H; exact H
        clear H
        have H := H1
        clear H1
        have HC7 := Aside0.mk H
        clear H
        go_upto_region 3 with (fail)
        go_cut [15] (fun v15 wc => ∃ (kq : Nat) (x15_6 : Bool), v15 = .bool x15_6 ∧ Aside0 (spec_qrFormatAt.j1 kq a0 a1 a2 x15_6 = some r) ∧ Aside0 (kq ≤ kj3) ∧ Drawn0 w wc)
        case first =>
          have H := HC7.out
          clear HC7
          by_cases c8 : a2 = 8
          · rw [if_pos c8] at H
            have c8b0 : (a2 == 8) = true := beq_iff_eq.mpr c8
            have c8b1 : (a2 != 8) = false := bne_eq_false_iff_eq.mpr c8
            clear c8
            (first | rw [c8b0] | (simp only [i64_w, i32_w]; rw [c8b0]) | skip)
            have H' := Aside0.mk H
            clear H
            go_wp2
            go_meet
            case rel => exact ⟨_, ((a1 == 7)), (by first | rfl | (simp; done) | (simp [*]; done)), H', ⟨by have := HJ3.out; first | omega | exact Nat.le_refl _⟩, by repeat (first | exact Drawn0.refl _ | apply Drawn0.step)⟩
          · rw [if_neg c8] at H
            have c8b0 : (a2 == 8) = false := beq_eq_false_iff_ne.mpr c8
            have c8b1 : (a2 != 8) = true := bne_iff_ne.mpr c8
            (first | rw [c8b0] | (simp only [i64_w, i32_w]; rw [c8b0]) | skip)
            have H' := Aside0.mk H
            clear H
            go_wp2
            go_meet
            case rel => exact ⟨_, (false), (by first | rfl | (simp; done) | (simp [*]; done)), H', ⟨by have := HJ3.out; first | omega | exact Nat.le_refl _⟩, by repeat (first | exact Drawn0.refl _ | apply Drawn0.step)⟩
        case rest =>
          clear HC7
          try clear p2
          try clear c3
          try clear c5
          try clear c5b0
          try clear c5b1
          try clear c6
          try clear c8
          try clear c8b0
          try clear c8b1
          try clear p2
          obtain ⟨kq, x15_6, rfl, HA, HJ6, ⟨mc6, rfl⟩⟩ := hcut
          cases kq with
          | zero => exact absurd HA.out (by simp [spec_qrFormatAt.j1])
          | succ kj6 =>
            have H := HA.out
            clear HA
            simp only [spec_qrFormatAt.j1] at H
            by_cases c9 : x15_6 = true
            · subst c9
              have H1 : (some 6) = some r := by rw [if_pos rfl] at H; exact H
              clear H
              have H := H1
              clear H1
              obtain rfl := Option.some.inj H
              go_wp2
              go_ret
              exact ⟨by first | rfl | (simp; done) | (simp [*]; done), by repeat (first | exact Drawn0.refl _ | apply Drawn0.step)⟩
            · replace c9 := Bool.eq_false_iff.mpr c9
              subst c9
              have H1 : (if a2 = 8 then (spec_qrFormatAt.j2 kj6 a0 a1 a2 (a1 == 8)) else (spec_qrFormatAt.j2 kj6 a0 a1 a2 false)) = some r := by rw [if_neg (show ¬ (false = true) by decide)] at H; exact H
              clear H
              have H := H1
              clear H1
              have HC10 := Aside0.mk H
              clear H
              go_upto_region 5 with (fail)
              go_cut [22] (fun v22 wc => ∃ (kq : Nat) (x22_9 : Bool), v22 = .bool x22_9 ∧ Aside0 (spec_qrFormatAt.j2 kq a0 a1 a2 x22_9 = some r) ∧ Aside0 (kq ≤ kj6) ∧ Drawn0 w wc)
              case first =>
                have H := HC10.out
                clear HC10
                by_cases c11 : a2 = 8
                · rw [if_pos c11] at H
                  have c11b0 : (a2 == 8) = true := beq_iff_eq.mpr c11
                  have c11b1 : (a2 != 8) = false := bne_eq_false_iff_eq.mpr c11
                  clear c11
                  (first | rw [c11b0] | (simp only [i64_w, i32_w]; rw [c11b0]) | skip)
                  have H' := Aside0.mk H
                  clear H
                  go_wp2
                  go_meet
                  case rel => exact ⟨_, ((a1 == 8)), (by first | rfl | (simp; done) | (simp [*]; done)), H', ⟨by have := HJ3.out; have := HJ6.out; first | omega | exact Nat.le_refl _⟩, by repeat (first | exact Drawn0.refl _ | apply Drawn0.step)⟩
                · rw [if_neg c11] at H
                  have c11b0 : (a2 == 8) = false := beq_eq_false_iff_ne.mpr c11
                  have c11b1 : (a2 != 8) = true := bne_iff_ne.mpr c11
                  (first | rw [c11b0] | (simp only [i64_w, i32_w]; rw [c11b0]) | skip)
                  have H' := Aside0.mk H
                  clear H
                  go_wp2
                  go_meet
                  case rel => exact ⟨_, (false), (by first | rfl | (simp; done) | (simp [*]; done)), H', ⟨by have := HJ3.out; have := HJ6.out; first | omega | exact Nat.le_refl _⟩, by repeat (first | exact Drawn0.refl _ | apply Drawn0.step)⟩
              case rest =>
                clear HC10
                try clear c1
                try clear p2
                try clear c3
                try clear c5
                try clear c5b0
                try clear c5b1
                try clear c6
                try clear c8
                try clear c8b0
                try clear c8b1
                try clear c9
                try clear c11
                try clear c11b0
                try clear c11b1
                try clear p2
                obtain ⟨kq, x22_9, rfl, HA, HJ9, ⟨mc9, rfl⟩⟩ := hcut
                cases kq with
                | zero => exact absurd HA.out (by simp [spec_qrFormatAt.j2])
                | succ kj9 =>
                  have H := HA.out
                  clear HA
                  simp only [spec_qrFormatAt.j2] at H
                  by_cases c12 : x22_9 = true
                  · subst c12
                    have H1 : (some 7) = some r := by rw [if_pos rfl] at H; exact H
                    clear H
                    have H := H1
                    clear H1
                    obtain rfl := Option.some.inj H
                    go_wp2
                    go_ret
                    exact ⟨by first | rfl | (simp; done) | (simp [*]; done), by repeat (first | exact Drawn0.refl _ | apply Drawn0.step)⟩
                  · replace c12 := Bool.eq_false_iff.mpr c12
                    subst c12
                    have H1 : (if a1 = 8 then (spec_qrFormatAt.j3 kj9 a0 a1 a2 (a2 == 7)) else (spec_qrFormatAt.j3 kj9 a0 a1 a2 false)) = some r := by rw [if_neg (show ¬ (false = true) by decide)] at H; exact H
                    clear H
                    have H := H1
                    clear H1
                    have HC13 := Aside0.mk H
                    clear H
                    go_upto_region 7 with (fail)
                    go_cut [29] (fun v29 wc => ∃ (kq : Nat) (x29_12 : Bool), v29 = .bool x29_12 ∧ Aside0 (spec_qrFormatAt.j3 kq a0 a1 a2 x29_12 = some r) ∧ Aside0 (kq ≤ kj9) ∧ Drawn0 w wc)
                    case first =>
                      have H := HC13.out
                      clear HC13
                      by_cases c14 : a1 = 8
                      · rw [if_pos c14] at H
                        have c14b0 : (a1 == 8) = true := beq_iff_eq.mpr c14
                        have c14b1 : (a1 != 8) = false := bne_eq_false_iff_eq.mpr c14
                        clear c14
                        (first | rw [c14b0] | (simp only [i64_w, i32_w]; rw [c14b0]) | skip)
                        have H' := Aside0.mk H
                        clear H
                        go_wp2
                        go_meet
                        case rel => exact ⟨_, ((a2 == 7)), (by first | rfl | (simp; done) | (simp [*]; done)), H', ⟨by have := HJ3.out; have := HJ6.out; have := HJ9.out; first | omega | exact Nat.le_refl _⟩, by repeat (first | exact Drawn0.refl _ | apply Drawn0.step)⟩
                      · rw [if_neg c14] at H
                        have c14b0 : (a1 == 8) = false := beq_eq_false_iff_ne.mpr c14
                        have c14b1 : (a1 != 8) = true := bne_iff_ne.mpr c14
                        (first | rw [c14b0] | (simp only [i64_w, i32_w]; rw [c14b0]) | skip)
                        have H' := Aside0.mk H
                        clear H
                        go_wp2
                        go_meet
                        case rel => exact ⟨_, (false), (by first | rfl | (simp; done) | (simp [*]; done)), H', ⟨by have := HJ3.out; have := HJ6.out; have := HJ9.out; first | omega | exact Nat.le_refl _⟩, by repeat (first | exact Drawn0.refl _ | apply Drawn0.step)⟩
                    case rest =>
                      clear HC13
                      try clear c1
                      try clear p2
                      try clear c3
                      try clear c5
                      try clear c5b0
                      try clear c5b1
                      try clear c6
                      try clear c8
                      try clear c8b0
                      try clear c8b1
                      try clear c9
                      try clear c11
                      try clear c11b0
                      try clear c11b1
                      try clear c12
                      try clear c14
                      try clear c14b0
                      try clear c14b1
                      try clear p2
                      obtain ⟨kq, x29_12, rfl, HA, HJ12, ⟨mc12, rfl⟩⟩ := hcut
                      cases kq with
                      | zero => exact absurd HA.out (by simp [spec_qrFormatAt.j3])
                      | succ kj12 =>
                        have H := HA.out
                        clear HA
                        simp only [spec_qrFormatAt.j3] at H
                        by_cases c15 : x29_12 = true
                        · subst c15
                          have H1 : (some 8) = some r := by rw [if_pos rfl] at H; exact H
                          clear H
                          have H := H1
                          clear H1
                          obtain rfl := Option.some.inj H
                          go_wp2
                          go_ret
                          exact ⟨by first | rfl | (simp; done) | (simp [*]; done), by repeat (first | exact Drawn0.refl _ | apply Drawn0.step)⟩
                        · replace c15 := Bool.eq_false_iff.mpr c15
                          subst c15
                          have H1 : (if a1 = 8 then (spec_qrFormatAt.j4 kj12 a0 a1 a2 (decide (a2 ≤ 5))) else (spec_qrFormatAt.j4 kj12 a0 a1 a2 false)) = some r := by rw [if_neg (show ¬ (false = true) by decide)] at H; exact H
                          clear H
                          have H := H1
                          clear H1
                          have HC16 := Aside0.mk H
                          clear H
                          go_upto_region 9 with (fail)
                          go_cut [36] (fun v36 wc => ∃ (kq : Nat) (x36_15 : Bool), v36 = .bool x36_15 ∧ Aside0 (spec_qrFormatAt.j4 kq a0 a1 a2 x36_15 = some r) ∧ Aside0 (kq ≤ kj12) ∧ Drawn0 w wc)
                          case first =>
                            have H := HC16.out
                            clear HC16
                            by_cases c17 : a1 = 8
                            · rw [if_pos c17] at H
                              have c17b0 : (a1 == 8) = true := beq_iff_eq.mpr c17
                              have c17b1 : (a1 != 8) = false := bne_eq_false_iff_eq.mpr c17
                              clear c17
                              (first | rw [c17b0] | (simp only [i64_w, i32_w]; rw [c17b0]) | skip)
                              have H' := Aside0.mk H
                              clear H
                              go_wp2
                              go_meet
                              case rel => exact ⟨_, (decide (a2 ≤ 5)), (by first | rfl | (simp; done) | (simp [*]; done)), H', ⟨by have := HJ3.out; have := HJ6.out; have := HJ9.out; have := HJ12.out; first | omega | exact Nat.le_refl _⟩, by repeat (first | exact Drawn0.refl _ | apply Drawn0.step)⟩
                            · rw [if_neg c17] at H
                              have c17b0 : (a1 == 8) = false := beq_eq_false_iff_ne.mpr c17
                              have c17b1 : (a1 != 8) = true := bne_iff_ne.mpr c17
                              (first | rw [c17b0] | (simp only [i64_w, i32_w]; rw [c17b0]) | skip)
                              have H' := Aside0.mk H
                              clear H
                              go_wp2
                              go_meet
                              case rel => exact ⟨_, (false), (by first | rfl | (simp; done) | (simp [*]; done)), H', ⟨by have := HJ3.out; have := HJ6.out; have := HJ9.out; have := HJ12.out; first | omega | exact Nat.le_refl _⟩, by repeat (first | exact Drawn0.refl _ | apply Drawn0.step)⟩
                          case rest =>
                            clear HC16
                            try clear c1
                            try clear p2
                            try clear c3
                            try clear c5
                            try clear c5b0
                            try clear c5b1
                            try clear c6
                            try clear c8
                            try clear c8b0
                            try clear c8b1
                            try clear c9
                            try clear c11
                            try clear c11b0
                            try clear c11b1
                            try clear c12
                            try clear c14
                            try clear c14b0
                            try clear c14b1
                            try clear c15
                            try clear c17
                            try clear c17b0
                            try clear c17b1
                            try clear p2
                            obtain ⟨kq, x36_15, rfl, HA, HJ15, ⟨mc15, rfl⟩⟩ := hcut
                            cases kq with
                            | zero => exact absurd HA.out (by simp [spec_qrFormatAt.j4])
                            | succ kj15 =>
                              have H := HA.out
                              clear HA
                              simp only [spec_qrFormatAt.j4] at H
                              by_cases c18 : x36_15 = true
                              · subst c18
                                have H1 : (some (wrap64 (14 - a2))) = some r := by rw [if_pos rfl] at H; exact H
                                clear H
                                have H := H1
                                clear H1
                                obtain rfl := Option.some.inj H
                                go_wp2
                                go_ret
                                exact ⟨by first | rfl | (simp; done) | (simp [*]; done), by repeat (first | exact Drawn0.refl _ | apply Drawn0.step)⟩
                              · replace c18 := Bool.eq_false_iff.mpr c18
                                subst c18
                                have H1 : (if a1 = 8 then (spec_qrFormatAt.j5 kj15 a0 a1 a2 (decide (a2 ≥ (wrap64 (a0 - 8))))) else (spec_qrFormatAt.j5 kj15 a0 a1 a2 false)) = some r := by rw [if_neg (show ¬ (false = true) by decide)] at H; exact H
                                clear H
                                have H := H1
                                clear H1
                                have HC19 := Aside0.mk H
                                clear H
                                go_upto_region 11 with (fail)
                                go_cut [45] (fun v45 wc => ∃ (kq : Nat) (x45_18 : Bool), v45 = .bool x45_18 ∧ Aside0 (spec_qrFormatAt.j5 kq a0 a1 a2 x45_18 = some r) ∧ Aside0 (kq ≤ kj15) ∧ Drawn0 w wc)
                                case first =>
                                  have H := HC19.out
                                  clear HC19
                                  by_cases c20 : a1 = 8
                                  · rw [if_pos c20] at H
                                    have c20b0 : (a1 == 8) = true := beq_iff_eq.mpr c20
                                    have c20b1 : (a1 != 8) = false := bne_eq_false_iff_eq.mpr c20
                                    clear c20
                                    (first | rw [c20b0] | (simp only [i64_w, i32_w]; rw [c20b0]) | skip)
                                    have H' := Aside0.mk H
                                    clear H
                                    go_wp2
                                    go_meet
                                    case rel => exact ⟨_, (decide (a2 ≥ (wrap64 (a0 - 8)))), (by first | rfl | (simp; done) | (simp [*]; done)), H', ⟨by have := HJ3.out; have := HJ6.out; have := HJ9.out; have := HJ12.out; have := HJ15.out; first | omega | exact Nat.le_refl _⟩, by repeat (first | exact Drawn0.refl _ | apply Drawn0.step)⟩
                                  · rw [if_neg c20] at H
                                    have c20b0 : (a1 == 8) = false := beq_eq_false_iff_ne.mpr c20
                                    have c20b1 : (a1 != 8) = true := bne_iff_ne.mpr c20
                                    (first | rw [c20b0] | (simp only [i64_w, i32_w]; rw [c20b0]) | skip)
                                    have H' := Aside0.mk H
                                    clear H
                                    go_wp2
                                    go_meet
                                    case rel => exact ⟨_, (false), (by first | rfl | (simp; done) | (simp [*]; done)), H', ⟨by have := HJ3.out; have := HJ6.out; have := HJ9.out; have := HJ12.out; have := HJ15.out; first | omega | exact Nat.le_refl _⟩, by repeat (first | exact Drawn0.refl _ | apply Drawn0.step)⟩
                                case rest =>
                                  clear HC19
                                  try clear c1
                                  try clear c2
                                  try clear p2
                                  try clear c3
                                  try clear c5
                                  try clear c5b0
                                  try clear c5b1
                                  try clear c6
                                  try clear p6
                                  try clear c8
                                  try clear c8b0
                                  try clear c8b1
                                  try clear c9
                                  try clear c11
                                  try clear c11b0
                                  try clear c11b1
                                  try clear c12
                                  try clear c14
                                  try clear c14b0
                                  try clear c14b1
                                  try clear c15
                                  try clear c17
                                  try clear c17b0
                                  try clear c17b1
                                  try clear c18
                                  try clear c20
                                  try clear c20b0
                                  try clear c20b1
                                  try clear p2
                                  obtain ⟨kq, x45_18, rfl, HA, HJ18, ⟨mc18, rfl⟩⟩ := hcut
                                  cases kq with
                                  | zero => exact absurd HA.out (by simp [spec_qrFormatAt.j5])
                                  | succ kj18 =>
                                    have H := HA.out
                                    clear HA
                                    simp only [spec_qrFormatAt.j5] at H
                                    by_cases c21 : x45_18 = true
                                    · subst c21
                                      have H1 : (some (wrap64 ((wrap64 (a0 - 1)) - a2))) = some r := by rw [if_pos rfl] at H; exact H
                                      clear H
                                      have H := H1
                                      clear H1
                                      obtain rfl := Option.some.inj H
                                      go_wp2
                                      go_ret
                                      exact ⟨by first | rfl | (simp; done) | (simp [*]; done), by repeat (first | exact Drawn0.refl _ | apply Drawn0.step)⟩
                                    · replace c21 := Bool.eq_false_iff.mpr c21
                                      subst c21
                                      have H1 : (if a2 = 8 then (if a1 ≥ (wrap64 (a0 - 7)) then (some (wrap64 ((wrap64 (a1 - a0)) + 15))) else (some (-1))) else (some (-1))) = some r := by rw [if_neg (show ¬ (false = true) by decide)] at H; exact H
                                      clear H
                                      have H := H1
                                      clear H1
                                      by_cases c22 : a2 = 8
                                      · rw [if_pos c22] at H
                                        have c22b0 : (a2 == 8) = true := beq_iff_eq.mpr c22
                                        have c22b1 : (a2 != 8) = false := bne_eq_false_iff_eq.mpr c22
                                        clear c22
                                        by_cases c23 : a1 ≥ (wrap64 (a0 - 7))
                                        · rw [if_pos c23] at H
                                          have c23b0 : decide ((wrap64 (a0 - 7)) ≤ a1) = true := decide_eq_true c23
                                          clear c23
                                          obtain rfl := Option.some.inj H
                                          go_wp2
                                          go_ret
                                          exact ⟨by first | rfl | (simp; done) | (simp [*]; done), by repeat (first | exact Drawn0.refl _ | apply Drawn0.step)⟩
                                        · rw [if_neg c23] at H
                                          have c23b0 : decide ((wrap64 (a0 - 7)) ≤ a1) = false := decide_eq_false c23
                                          clear c23
                                          obtain rfl := Option.some.inj H
                                          go_wp2
                                          go_ret
                                          exact ⟨by first | rfl | (simp; done) | (simp [*]; done), by repeat (first | exact Drawn0.refl _ | apply Drawn0.step)⟩
                                      · rw [if_neg c22] at H
                                        have c22b0 : (a2 == 8) = false := beq_eq_false_iff_ne.mpr c22
                                        have c22b1 : (a2 != 8) = true := bne_iff_ne.mpr c22
                                        obtain rfl := Option.some.inj H
                                        go_wp2
                                        go_ret
                                        exact ⟨by first | rfl | (simp; done) | (simp [*]; done), by repeat (first | exact Drawn0.refl _ | apply Drawn0.step)⟩

/-! ### spec_qrRest: function 95 -/
def spec_qrRest.l0 : Nat → Int → Int → Int → Int → Option (Int)
  | 0, _, _, _, _ => none
  | k + 1, x0, x1, x2, x7 => if x7 ≥ (wrap64 (x2 - 1)) then (if 0 ≤ x7 then (if (Go.bits .and .i64 (shr .i64 x0 x7) 1) = 1 then (if 0 ≤ (wrap64 ((wrap64 (x7 - x2)) + 1)) then (spec_qrRest.l0 k (Go.bits .xor .i64 x0 (shl .i64 x1 (wrap64 ((wrap64 (x7 - x2)) + 1)))) x1 x2 (wrap64 (x7 - 1))) else (none)) else (spec_qrRest.l0 k x0 x1 x2 (wrap64 (x7 - 1)))) else (none)) else (some x0)
def spec_qrRest.f (k : Nat) (a0 : Int) (a1 : Int) (a2 : Int) : Option (Int) := spec_qrRest.l0 k a0 a1 a2 17
theorem spec_qrRest.mono_l : ∀ k, (∀ y0 y1 y2 y3, LeO (spec_qrRest.l0 k y0 y1 y2 y3) (spec_qrRest.l0 (k + 1) y0 y1 y2 y3))
  | 0 => fun _ _ _ _ r h => by simp [spec_qrRest.l0] at h
  | k + 1 => by
    have ih0 := spec_qrRest.mono_l k
    · intro y0 y1 y2 y3
      unfold spec_qrRest.l0
      repeat' first
      | (with_reducible exact ih0 _ _ _ _)
      | (with_reducible exact LeO.refl _)
      | (with_reducible exact LeO.none _)
      | (with_reducible refine LeO.ite ?_ ?_)
      | (with_reducible refine LeO.bind ?_ (fun _ => ?_))
      | exact ih0 _ _ _ _
      | exact LeO.none _
      | refine LeO.ite ?_ ?_
      | refine LeO.bind ?_ (fun _ => ?_)
theorem spec_qrRest.mono : ∀ a0 a1 a2 k, LeO (spec_qrRest.f k a0 a1 a2) (spec_qrRest.f (k + 1) a0 a1 a2) := by
  intro a0 a1 a2 k
  have ih0 := spec_qrRest.mono_l k
  unfold spec_qrRest.f
  repeat' first
      | (with_reducible exact ih0 _ _ _ _)
      | (with_reducible exact LeO.refl _)
      | (with_reducible exact LeO.none _)
      | (with_reducible refine LeO.ite ?_ ?_)
      | (with_reducible refine LeO.bind ?_ (fun _ => ?_))
      | exact ih0 _ _ _ _
      | exact LeO.none _
      | refine LeO.ite ?_ ?_
      | refine LeO.bind ?_ (fun _ => ?_)
set_option maxHeartbeats 8000000 in
set_option maxRecDepth 100000 in
theorem spec_qrRest.calls (k : Nat) (a0 : Int) (a1 : Int) (a2 : Int) (r : Int) (w : World) (h : spec_qrRest.f k a0 a1 a2 = some r) :
    Calls Tryz.prog 95 #[.int .i64 a0, .int .i64 a1, .int .i64 a2] w fun e w' => e = .returned (.int .i64 r) ∧ Drawn0 w w' := by
  have H : (spec_qrRest.l0 k a0 a1 a2 17) = some r := h
  clear h
  have H' := Aside0.mk H
  clear H
  go_enter Tryz.func95, Tryz.ntmps95
  go_wp2
  go_loopg [0, 7] k (fun kq v0 v7 w' => ∃ (x0_1 : Int) (x7_1 : Int), v0 = .int .i64 x0_1 ∧ v7 = .int .i64 x7_1 ∧ Aside0 (spec_qrRest.l0 kq x0_1 a1 a2 x7_1 = some r) ∧ Aside0 (kq ≤ k) ∧ Drawn0 w w')
  case atStart => exact ⟨(a0), (17), (by first | rfl | (simp; done) | (simp [*]; done)), (by first | rfl | (simp; done) | (simp [*]; done)), H', ⟨Nat.le_refl _⟩, by repeat (first | exact Drawn0.refl _ | apply Drawn0.step)⟩
  case round =>
    clear H'
    try clear p2
    obtain ⟨x0_1, x7_1, rfl, rfl, HA, HK1, ⟨m1, rfl⟩⟩ := hrel
    cases gk with
    | zero => exact absurd HA.out (by simp [spec_qrRest.l0])
    | succ k1 =>
      have H := HA.out
      clear HA
      simp only [spec_qrRest.l0] at H
      by_cases c4 : x7_1 ≥ (wrap64 (a2 - 1))
      · rw [if_pos c4] at H
        have c4b0 : decide ((wrap64 (a2 - 1)) ≤ x7_1) = true := decide_eq_true c4
        clear c4
        by_cases c5 : 0 ≤ x7_1
        · rw [if_pos c5] at H
          have c5b0 := eq_true c5
          have c5b1 : decide (0 ≤ x7_1) = true := decide_eq_true c5
          clear c5
          obtain ⟨ji6, hji6⟩ : ∃ j_ : Int, (shr .i64 x0_1 x7_1) = j_ := ⟨_, rfl⟩
          replace H : (if (Go.bits .and .i64 (ji6) 1) = 1 then (if 0 ≤ (wrap64 ((wrap64 (x7_1 - a2)) + 1)) then (spec_qrRest.l0 k1 (Go.bits .xor .i64 x0_1 (shl .i64 a1 (wrap64 ((wrap64 (x7_1 - a2)) + 1)))) a1 a2 (wrap64 (x7_1 - 1))) else (none)) else (spec_qrRest.l0 k1 x0_1 a1 a2 (wrap64 (x7_1 - 1)))) = some r := by first | (rw [hji6] at H; exact H) | (simp only [hji6] at H ⊢; exact H)
          have hji6_ : (x0_1 / 2 ^ min x7_1.toNat 64) = ji6 := hji6
          have hji6z : x7_1 ≤ 64 → (x0_1 / 2 ^ x7_1.toNat) = ji6 := shr_small hji6
          by_cases c7 : (Go.bits .and .i64 (ji6) 1) = 1
          · rw [if_pos c7] at H
            have c7b0 : ((Go.bits .and .i64 (ji6) 1) == 1) = true := beq_iff_eq.mpr c7
            have c7b1 : ((Go.bits .and .i64 (ji6) 1) != 1) = false := bne_eq_false_iff_eq.mpr c7
            clear c7
            obtain ⟨ji8, hji8⟩ : ∃ j_ : Int, (wrap64 ((wrap64 (x7_1 - a2)) + 1)) = j_ := ⟨_, rfl⟩
            replace H : (if 0 ≤ (ji8) then (spec_qrRest.l0 k1 (Go.bits .xor .i64 x0_1 (shl .i64 a1 (ji8))) a1 a2 (wrap64 (x7_1 - 1))) else (none)) = some r := by first | (rw [hji8] at H; exact H) | (simp only [hji8] at H ⊢; exact H)
            have hji8w : (IntKind.i64.wrap ((wrap64 (x7_1 - a2)) + 1)) = ji8 := (i64_w _).trans hji8
            by_cases c9 : 0 ≤ (ji8)
            · rw [if_pos c9] at H
              have c9b0 := eq_true c9
              have c9b1 : decide (0 ≤ (ji8)) = true := decide_eq_true c9
              clear c9
              obtain ⟨ji10, hji10⟩ : ∃ j_ : Int, (shl .i64 a1 (ji8)) = j_ := ⟨_, rfl⟩
              replace H : (spec_qrRest.l0 k1 (Go.bits .xor .i64 x0_1 (ji10)) a1 a2 (wrap64 (x7_1 - 1))) = some r := by first | (rw [hji10] at H; exact H) | (simp only [hji10] at H ⊢; exact H)
              have hji10_ : (IntKind.i64.wrap (a1 * 2 ^ min (ji8).toNat 64)) = ji10 := hji10
              have hji10z : (ji8) ≤ 64 → (IntKind.i64.wrap (a1 * 2 ^ (ji8).toNat)) = ji10 := shl_small hji10
              have hji10y : (wrap64 (a1 * 2 ^ min (ji8).toNat 64)) = ji10 := (i64_w _).symm.trans hji10_
              have hji10x : (ji8) ≤ 64 → (wrap64 (a1 * 2 ^ (ji8).toNat)) = ji10 := fun h_ => (i64_w _).symm.trans (hji10z h_)
              have H' := Aside0.mk H
              clear H
              go_wp2
              go_roundg k1
              case measure => have := HK1.out; omega
              case rel => exact ⟨(Go.bits .xor .i64 x0_1 (ji10)), (wrap64 (x7_1 - 1)), (by first | rfl | (simp; done) | (simp only [← hji10] <;> (first | rfl | simp)) | (simp [*]; done)), (by first | rfl | (simp; done) | (simp [*]; done)), H', ⟨by have := HK1.out; omega⟩, by repeat (first | exact Drawn0.refl _ | apply Drawn0.step)⟩
            · rw [if_neg c9] at H
              exact absurd H (by simp)
          · rw [if_neg c7] at H
            have c7b0 : ((Go.bits .and .i64 (ji6) 1) == 1) = false := beq_eq_false_iff_ne.mpr c7
            have c7b1 : ((Go.bits .and .i64 (ji6) 1) != 1) = true := bne_iff_ne.mpr c7
            have H' := Aside0.mk H
            clear H
            go_wp2
            go_roundg k1
            case measure => have := HK1.out; omega
            case rel => exact ⟨(x0_1), (wrap64 (x7_1 - 1)), (by first | rfl | (simp; done) | (simp [*]; done)), (by first | rfl | (simp; done) | (simp [*]; done)), H', ⟨by have := HK1.out; omega⟩, by repeat (first | exact Drawn0.refl _ | apply Drawn0.step)⟩
        · rw [if_neg c5] at H
          exact absurd H (by simp)
      · rw [if_neg c4] at H
        have c4b0 : decide ((wrap64 (a2 - 1)) ≤ x7_1) = false := decide_eq_false c4
        clear c4
        obtain rfl := Option.some.inj H
        go_wp2
        go_ret
        exact ⟨by first | rfl | (simp; done) | (simp [*]; done), by repeat (first | exact Drawn0.refl _ | apply Drawn0.step)⟩

/-! ### spec_QRVersionBits: function 99 -/
def spec_QRVersionBits.f (k : Nat) (a0 : Int) : Option (Int) := (spec_qrRest.f k (wrap64 (a0 * 4096)) 7973 13).bind fun t310 => (some (Go.bits .or .i64 (wrap64 (a0 * 4096)) t310))
theorem spec_QRVersionBits.mono : ∀ a0 k, LeO (spec_QRVersionBits.f k a0) (spec_QRVersionBits.f (k + 1) a0) := by
  intro a0 k
  unfold spec_QRVersionBits.f
  repeat' first
      | (with_reducible exact spec_qrRest.mono _ _ _ _)
      | (with_reducible exact LeO.refl _)
      | (with_reducible exact LeO.none _)
      | (with_reducible refine LeO.ite ?_ ?_)
      | (with_reducible refine LeO.bind ?_ (fun _ => ?_))
      | exact spec_qrRest.mono _ _ _ _
      | exact LeO.none _
      | refine LeO.ite ?_ ?_
      | refine LeO.bind ?_ (fun _ => ?_)
set_option maxHeartbeats 8000000 in
set_option maxRecDepth 100000 in
theorem spec_QRVersionBits.calls (k : Nat) (a0 : Int) (r : Int) (w : World) (h : spec_QRVersionBits.f k a0 = some r) :
    Calls Tryz.prog 99 #[.int .i64 a0] w fun e w' => e = .returned (.int .i64 r) ∧ Drawn0 w w' := by
  have H : ((spec_qrRest.f k (wrap64 (a0 * 4096)) 7973 13).bind fun t310 => (some (Go.bits .or .i64 (wrap64 (a0 * 4096)) t310))) = some r := h
  clear h
  replace H := Option.bind_eq_some_iff.mp H
  obtain ⟨t310, A20, H⟩ := H
  replace H : (some (Go.bits .or .i64 (wrap64 (a0 * 4096)) t310)) = some r := H
  have A2 := Aside0.mk A20
  clear A20
  obtain rfl := Option.some.inj H
  go_enter Tryz.func99, Tryz.ntmps99
  go_wp2_with (first | ((with_reducible refine gate_callee (f := 95) rfl ?_); refine goesL_ (some 7) rfl rfl Tryz.func95 (by kernel_rfl) rfl #[.int .i64 (wrap64 (a0 * 4096)), .int .i64 7973, .int .i64 13] rfl (by (try simp only [List.map_toArray, List.map_cons, List.map_nil]); first | done | rfl | (simp only [List.length_drop, List.length_take]; rfl)) ?_; (with_reducible refine (spec_qrRest.calls k (wrap64 (a0 * 4096)) 7973 13 t310 _ A2.out).mono ?_); rintro e w' ⟨rfl, ⟨nd, rfl⟩⟩; refine ⟨_, rfl, ?_⟩))
  go_ret
  exact ⟨by first | rfl | (simp; done) | (simp [*]; done), by repeat (first | exact Drawn0.refl _ | apply Drawn0.step)⟩

/-! ### spec_qrPattern: function 50 -/
mutual
def spec_qrPattern.j0 : Nat → Int → List Int → Int → Int → Int → Bool → Option (Bool)
  | 0, _, _, _, _, _, _ => none
  | k + 1, x0, x2, x3, x4, x11, x35 => if x35 = true then (some true) else ((spec_qrFar.f x3 x4 3 3).bind fun t313 => ((spec_qrFar.f x3 x4 3 (wrap64 (x11 - 4))).bind fun t314 => ((spec_qrFar.f x3 x4 (wrap64 (x11 - 4)) 3).bind fun t315 => (if (mn (mn t313 t314) t315) ≤ 4 then (if (mn (mn t313 t314) t315) = 2 then (some false) else (some ((mn (mn t313 t314) t315) != 4))) else ((spec_qrAlign.f k x2 x3 x4).bind fun t316 => (if t316 ≥ 0 then (some (t316 != 1)) else (if x3 = 6 then (spec_qrPattern.j1 k x0 x3 x4 x11 true) else (spec_qrPattern.j1 k x0 x3 x4 x11 (x4 == 6)))))))))
def spec_qrPattern.j1 : Nat → Int → Int → Int → Int → Bool → Option (Bool)
  | 0, _, _, _, _, _ => none
  | k + 1, x0, x3, x4, x11, x71 => if x71 = true then (some ((Int.tmod (wrap64 (x3 + x4)) 2) == 0)) else (if x3 < x4 then ((spec_QRVersionBits.f k x0).bind fun t317 => (if 0 ≤ (wrap64 ((wrap64 ((wrap64 ((wrap64 (x3 * 3)) + x4)) - x11)) + 11)) then (some ((Go.bits .and .i64 (shr .i64 t317 (wrap64 ((wrap64 ((wrap64 ((wrap64 (x3 * 3)) + x4)) - x11)) + 11))) 1) == 1)) else (none))) else ((spec_QRVersionBits.f k x0).bind fun t318 => (if 0 ≤ (wrap64 ((wrap64 ((wrap64 ((wrap64 (x4 * 3)) + x3)) - x11)) + 11)) then (some ((Go.bits .and .i64 (shr .i64 t318 (wrap64 ((wrap64 ((wrap64 ((wrap64 (x4 * 3)) + x3)) - x11)) + 11))) 1) == 1)) else (none))))
end
def spec_qrPattern.f (k : Nat) (a0 : Int) (a1 : Int) (l2 : List Int) (a3 : Int) (a4 : Int) : Option (Bool) := (spec_QRDimension.f a0).bind fun t311 => ((spec_qrFormatAt.f k t311 a3 a4).bind fun t312 => (if t312 ≥ 0 then (if 0 ≤ t312 then (some ((Go.bits .and .i64 (shr .i64 a1 t312) 1) == 1)) else (none)) else (if a3 = (wrap64 (t311 - 8)) then (spec_qrPattern.j0 k a0 l2 a3 a4 t311 (a4 == 8)) else (spec_qrPattern.j0 k a0 l2 a3 a4 t311 false))))
theorem spec_qrPattern.mono_l : ∀ k, (∀ y0 y1 y2 y3 y4 y5, LeO (spec_qrPattern.j0 k y0 y1 y2 y3 y4 y5) (spec_qrPattern.j0 (k + 1) y0 y1 y2 y3 y4 y5)) ∧ (∀ y0 y1 y2 y3 y4, LeO (spec_qrPattern.j1 k y0 y1 y2 y3 y4) (spec_qrPattern.j1 (k + 1) y0 y1 y2 y3 y4))
  | 0 => ⟨fun _ _ _ _ _ _ r h => by simp [spec_qrPattern.j0] at h, fun _ _ _ _ _ r h => by simp [spec_qrPattern.j1] at h⟩
  | k + 1 => by
    obtain ⟨ih0, ih1⟩ := spec_qrPattern.mono_l k
    refine ⟨?_, ?_⟩
    · intro y0 y1 y2 y3 y4 y5
      unfold spec_qrPattern.j0
      repeat' first
      | (with_reducible exact ih0 _ _ _ _ _ _)
      | (with_reducible exact ih1 _ _ _ _ _)
      | (with_reducible exact spec_QRVersionBits.mono _ _)
      | (with_reducible exact spec_qrAlign.mono _ _ _ _)
      | (with_reducible exact spec_qrFormatAt.mono _ _ _ _)
      | (with_reducible exact LeO.refl _)
      | (with_reducible exact LeO.none _)
      | (with_reducible refine LeO.ite ?_ ?_)
      | (with_reducible refine LeO.bind ?_ (fun _ => ?_))
      | exact ih0 _ _ _ _ _ _
      | exact ih1 _ _ _ _ _
      | exact spec_QRVersionBits.mono _ _
      | exact spec_qrAlign.mono _ _ _ _
      | exact spec_qrFormatAt.mono _ _ _ _
      | exact LeO.none _
      | refine LeO.ite ?_ ?_
      | refine LeO.bind ?_ (fun _ => ?_)
    · intro y0 y1 y2 y3 y4
      unfold spec_qrPattern.j1
      repeat' first
      | (with_reducible exact ih0 _ _ _ _ _ _)
      | (with_reducible exact ih1 _ _ _ _ _)
      | (with_reducible exact spec_QRVersionBits.mono _ _)
      | (with_reducible exact spec_qrAlign.mono _ _ _ _)
      | (with_reducible exact spec_qrFormatAt.mono _ _ _ _)
      | (with_reducible exact LeO.refl _)
      | (with_reducible exact LeO.none _)
      | (with_reducible refine LeO.ite ?_ ?_)
      | (with_reducible refine LeO.bind ?_ (fun _ => ?_))
      | exact ih0 _ _ _ _ _ _
      | exact ih1 _ _ _ _ _
      | exact spec_QRVersionBits.mono _ _
      | exact spec_qrAlign.mono _ _ _ _
      | exact spec_qrFormatAt.mono _ _ _ _
      | exact LeO.none _
      | refine LeO.ite ?_ ?_
      | refine LeO.bind ?_ (fun _ => ?_)
theorem spec_qrPattern.mono : ∀ a0 a1 a2 a3 a4 k, LeO (spec_qrPattern.f k a0 a1 a2 a3 a4) (spec_qrPattern.f (k + 1) a0 a1 a2 a3 a4) := by
  intro a0 a1 a2 a3 a4 k
  obtain ⟨ih0, ih1⟩ := spec_qrPattern.mono_l k
  unfold spec_qrPattern.f
  repeat' first
      | (with_reducible exact ih0 _ _ _ _ _ _)
      | (with_reducible exact ih1 _ _ _ _ _)
      | (with_reducible exact spec_QRVersionBits.mono _ _)
      | (with_reducible exact spec_qrAlign.mono _ _ _ _)
      | (with_reducible exact spec_qrFormatAt.mono _ _ _ _)
      | (with_reducible exact LeO.refl _)
      | (with_reducible exact LeO.none _)
      | (with_reducible refine LeO.ite ?_ ?_)
      | (with_reducible refine LeO.bind ?_ (fun _ => ?_))
      | exact ih0 _ _ _ _ _ _
      | exact ih1 _ _ _ _ _
      | exact spec_QRVersionBits.mono _ _
      | exact spec_qrAlign.mono _ _ _ _
      | exact spec_qrFormatAt.mono _ _ _ _
      | exact LeO.none _
      | refine LeO.ite ?_ ?_
      | refine LeO.bind ?_ (fun _ => ?_)
set_option maxHeartbeats 8000000 in
set_option maxRecDepth 100000 in
theorem spec_qrPattern.calls (k : Nat) (a0 : Int) (a1 : Int) (A2 : Option Addr) (c2 : Nat) (l2 : List Int) (a3 : Int) (a4 : Int) (r : Bool) (w : World) (hr2 : Kd.C (Kd.int .i64) w A2 l2.length l2) (hc2 : l2.length ≤ c2) (h : spec_qrPattern.f k a0 a1 l2 a3 a4 = some r) :
    Calls Tryz.prog 50 #[.int .i64 a0, .int .i64 a1, .slice A2 l2.length c2, .int .i64 a3, .int .i64 a4] w fun e w' => e = .returned (.bool r) ∧ Below w.heap.size w w' := by
  have HR2 := Aside0.mk hr2
  have HC2 := Aside0.mk hc2
  clear hr2 hc2
  have HB := Aside0.mk (Below.refl w.heap.size w)
  have H : ((spec_QRDimension.f a0).bind fun t311 => ((spec_qrFormatAt.f k t311 a3 a4).bind fun t312 => (if t312 ≥ 0 then (if 0 ≤ t312 then (some ((Go.bits .and .i64 (shr .i64 a1 t312) 1) == 1)) else (none)) else (if a3 = (wrap64 (t311 - 8)) then (spec_qrPattern.j0 k a0 l2 a3 a4 t311 (a4 == 8)) else (spec_qrPattern.j0 k a0 l2 a3 a4 t311 false))))) = some r := h
  clear h
  replace H := Option.bind_eq_some_iff.mp H
  obtain ⟨t311, A60, H⟩ := H
  replace H : ((spec_qrFormatAt.f k t311 a3 a4).bind fun t312 => (if t312 ≥ 0 then (if 0 ≤ t312 then (some ((Go.bits .and .i64 (shr .i64 a1 t312) 1) == 1)) else (none)) else (if a3 = (wrap64 (t311 - 8)) then (spec_qrPattern.j0 k a0 l2 a3 a4 t311 (a4 == 8)) else (spec_qrPattern.j0 k a0 l2 a3 a4 t311 false)))) = some r := H
  have A6 := Aside0.mk A60
  clear A60
  replace H := Option.bind_eq_some_iff.mp H
  obtain ⟨t312, A70, H⟩ := H
  replace H : (if t312 ≥ 0 then (if 0 ≤ t312 then (some ((Go.bits .and .i64 (shr .i64 a1 t312) 1) == 1)) else (none)) else (if a3 = (wrap64 (t311 - 8)) then (spec_qrPattern.j0 k a0 l2 a3 a4 t311 (a4 == 8)) else (spec_qrPattern.j0 k a0 l2 a3 a4 t311 false))) = some r := H
  have A7 := Aside0.mk A70
  clear A70
  by_cases c8 : t312 ≥ 0
  · rw [if_pos c8] at H
    have c8b0 : decide (0 ≤ t312) = true := decide_eq_true c8
    clear c8
    by_cases c9 : 0 ≤ t312
    · rw [if_pos c9] at H
      have c9b0 := eq_true c9
      have c9b1 : decide (0 ≤ t312) = true := decide_eq_true c9
      clear c9
      obtain ⟨ji10, hji10⟩ : ∃ j_ : Int, (shr .i64 a1 t312) = j_ := ⟨_, rfl⟩
      replace H : (some ((Go.bits .and .i64 (ji10) 1) == 1)) = some r := by first | (rw [hji10] at H; exact H) | (simp only [hji10] at H ⊢; exact H)
      (try rw [hji10] at A6)
      (try rw [hji10] at A7)
      have hji10_ : (a1 / 2 ^ min t312.toNat 64) = ji10 := hji10
      have hji10z : t312 ≤ 64 → (a1 / 2 ^ t312.toNat) = ji10 := shr_small hji10
      obtain rfl := Option.some.inj H
      go_enter Tryz.func50, Tryz.ntmps50
      go_wp2_with (first | ((with_reducible refine gate_callee (f := 46) rfl ?_); refine goesL_ (some 16) rfl rfl Tryz.func46 (by kernel_rfl) rfl #[.int .i64 a0] rfl (by (try simp only [List.map_toArray, List.map_cons, List.map_nil]); first | done | rfl | (simp only [List.length_drop, List.length_take]; rfl)) ?_; (with_reducible refine (spec_QRDimension.calls a0 t311 _ A6.out).mono ?_); rintro e w' ⟨rfl, ⟨nd, rfl⟩⟩; refine ⟨_, rfl, ?_⟩) | ((with_reducible refine gate_callee (f := 97) rfl ?_); refine goesL_ (some 20) rfl rfl Tryz.func97 (by kernel_rfl) rfl #[.int .i64 t311, .int .i64 a3, .int .i64 a4] rfl (by (try simp only [List.map_toArray, List.map_cons, List.map_nil]); first | done | rfl | (simp only [List.length_drop, List.length_take]; rfl)) ?_; (with_reducible refine (spec_qrFormatAt.calls k t311 a3 a4 t312 _ A7.out).mono ?_); rintro e w' ⟨rfl, ⟨nd, rfl⟩⟩; refine ⟨_, rfl, ?_⟩))
      go_ret
      exact ⟨by first | rfl | (simp [errW_none, errW_some] <;> rfl) | (simp only [← hji10]; first | rfl | (simp [errW_none, errW_some] <;> rfl)) | (simp [*, errW_none, errW_some] <;> rfl), by repeat (first | (with_reducible first | exact HB.out | apply below_alloc | apply pw_below_drewN | apply below_drew1) | exact HB.out)⟩
    · rw [if_neg c9] at H
      exact absurd H (by simp)
  · rw [if_neg c8] at H
    have c8b0 : decide (0 ≤ t312) = false := decide_eq_false c8
    clear c8
    have HC11 := Aside0.mk H
    clear H
    go_enter Tryz.func50, Tryz.ntmps50
    go_upto_region 5 with (first | ((with_reducible refine gate_callee (f := 46) rfl ?_); refine goesL_ (some 16) rfl rfl Tryz.func46 (by kernel_rfl) rfl #[.int .i64 a0] rfl (by (try simp only [List.map_toArray, List.map_cons, List.map_nil]); first | done | rfl | (simp only [List.length_drop, List.length_take]; rfl)) ?_; (with_reducible refine (spec_QRDimension.calls a0 t311 _ A6.out).mono ?_); rintro e w' ⟨rfl, ⟨nd, rfl⟩⟩; refine ⟨_, rfl, ?_⟩) | ((with_reducible refine gate_callee (f := 97) rfl ?_); refine goesL_ (some 20) rfl rfl Tryz.func97 (by kernel_rfl) rfl #[.int .i64 t311, .int .i64 a3, .int .i64 a4] rfl (by (try simp only [List.map_toArray, List.map_cons, List.map_nil]); first | done | rfl | (simp only [List.length_drop, List.length_take]; rfl)) ?_; (with_reducible refine (spec_qrFormatAt.calls k t311 a3 a4 t312 _ A7.out).mono ?_); rintro e w' ⟨rfl, ⟨nd, rfl⟩⟩; refine ⟨_, rfl, ?_⟩))
    (try simp only [Act.put, List.setIfInBounds_toArray, List.set_cons_zero, List.set_cons_succ])
    go_cut [35] (fun v35 wc => ∃ (kq : Nat) (x35_10 : Bool), v35 = .bool x35_10 ∧ Aside0 (spec_qrPattern.j0 kq a0 l2 a3 a4 t311 x35_10 = some r) ∧ Aside0 (kq ≤ k) ∧ Aside0 (Below w.heap.size w wc))
    case first =>
      have H := HC11.out
      clear HC11
      by_cases c12 : a3 = (wrap64 (t311 - 8))
      · rw [if_pos c12] at H
        have c12b0 : (a3 == (wrap64 (t311 - 8))) = true := beq_iff_eq.mpr c12
        have c12b1 : (a3 != (wrap64 (t311 - 8))) = false := bne_eq_false_iff_eq.mpr c12
        clear c12
        (first | rw [c12b0] | (simp only [i64_w, i32_w]; rw [c12b0]) | skip)
        have H' := Aside0.mk H
        clear H
        go_wp2
        go_meet
        case rel => exact ⟨_, ((a4 == 8)), (by first | rfl | (simp; done) | (simp [*]; done)), H', ⟨by first | omega | exact Nat.le_refl _⟩, ⟨by repeat (first | (with_reducible first | exact HB.out | apply below_alloc | apply pw_below_drewN | apply below_drew1) | exact HB.out)⟩⟩
      · rw [if_neg c12] at H
        have c12b0 : (a3 == (wrap64 (t311 - 8))) = false := beq_eq_false_iff_ne.mpr c12
        have c12b1 : (a3 != (wrap64 (t311 - 8))) = true := bne_iff_ne.mpr c12
        (first | rw [c12b0] | (simp only [i64_w, i32_w]; rw [c12b0]) | skip)
        have H' := Aside0.mk H
        clear H
        go_wp2
        go_meet
        case rel => exact ⟨_, (false), (by first | rfl | (simp; done) | (simp [*]; done)), H', ⟨by first | omega | exact Nat.le_refl _⟩, ⟨by repeat (first | (with_reducible first | exact HB.out | apply below_alloc | apply pw_below_drewN | apply below_drew1) | exact HB.out)⟩⟩
    case rest =>
      clear HC11
      try clear c1
      try clear c2
      try clear p2
      try clear c4
      try clear c5
      try clear p6
      try clear c8
      try clear c8b0
      try clear c9
      try clear c9b0
      try clear c9b1
      try clear c12
      try clear c12b0
      try clear c12b1
      obtain ⟨kq, x35_10, rfl, HA, HJ10, HB⟩ := hcut
      cases kq with
      | zero => exact absurd HA.out (by simp [spec_qrPattern.j0])
      | succ kj10 =>
        have H := HA.out
        clear HA
        simp only [spec_qrPattern.j0] at H
        by_cases c13 : x35_10 = true
        · subst c13
          have H1 : (some true) = some r := by rw [if_pos rfl] at H; exact H
          clear H
          have H := H1
          clear H1
          obtain rfl := Option.some.inj H
          go_wp2
          go_ret
          exact ⟨by first | rfl | (simp [errW_none, errW_some] <;> rfl) | (simp [*, errW_none, errW_some] <;> rfl), by repeat (first | (with_reducible first | exact HB.out | apply below_alloc | apply pw_below_drewN | apply below_drew1) | exact HB.out)⟩
        · replace c13 := Bool.eq_false_iff.mpr c13
          subst c13
          have H1 : ((spec_qrFar.f a3 a4 3 3).bind fun t313 => ((spec_qrFar.f a3 a4 3 (wrap64 (t311 - 4))).bind fun t314 => ((spec_qrFar.f a3 a4 (wrap64 (t311 - 4)) 3).bind fun t315 => (if (mn (mn t313 t314) t315) ≤ 4 then (if (mn (mn t313 t314) t315) = 2 then (some false) else (some ((mn (mn t313 t314) t315) != 4))) else ((spec_qrAlign.f kj10 l2 a3 a4).bind fun t316 => (if t316 ≥ 0 then (some (t316 != 1)) else (if a3 = 6 then (spec_qrPattern.j1 kj10 a0 a3 a4 t311 true) else (spec_qrPattern.j1 kj10 a0 a3 a4 t311 (a4 == 6))))))))) = some r := by rw [if_neg (show ¬ (false = true) by decide)] at H; exact H
          clear H
          have H := H1
          clear H1
          replace H := Option.bind_eq_some_iff.mp H
          obtain ⟨t313, A140, H⟩ := H
          replace H : ((spec_qrFar.f a3 a4 3 (wrap64 (t311 - 4))).bind fun t314 => ((spec_qrFar.f a3 a4 (wrap64 (t311 - 4)) 3).bind fun t315 => (if (mn (mn t313 t314) t315) ≤ 4 then (if (mn (mn t313 t314) t315) = 2 then (some false) else (some ((mn (mn t313 t314) t315) != 4))) else ((spec_qrAlign.f kj10 l2 a3 a4).bind fun t316 => (if t316 ≥ 0 then (some (t316 != 1)) else (if a3 = 6 then (spec_qrPattern.j1 kj10 a0 a3 a4 t311 true) else (spec_qrPattern.j1 kj10 a0 a3 a4 t311 (a4 == 6)))))))) = some r := H
          have A14 := Aside0.mk A140
          clear A140
          replace H := Option.bind_eq_some_iff.mp H
          obtain ⟨t314, A150, H⟩ := H
          replace H : ((spec_qrFar.f a3 a4 (wrap64 (t311 - 4)) 3).bind fun t315 => (if (mn (mn t313 t314) t315) ≤ 4 then (if (mn (mn t313 t314) t315) = 2 then (some false) else (some ((mn (mn t313 t314) t315) != 4))) else ((spec_qrAlign.f kj10 l2 a3 a4).bind fun t316 => (if t316 ≥ 0 then (some (t316 != 1)) else (if a3 = 6 then (spec_qrPattern.j1 kj10 a0 a3 a4 t311 true) else (spec_qrPattern.j1 kj10 a0 a3 a4 t311 (a4 == 6))))))) = some r := H
          have A15 := Aside0.mk A150
          clear A150
          replace H := Option.bind_eq_some_iff.mp H
          obtain ⟨t315, A160, H⟩ := H
          replace H : (if (mn (mn t313 t314) t315) ≤ 4 then (if (mn (mn t313 t314) t315) = 2 then (some false) else (some ((mn (mn t313 t314) t315) != 4))) else ((spec_qrAlign.f kj10 l2 a3 a4).bind fun t316 => (if t316 ≥ 0 then (some (t316 != 1)) else (if a3 = 6 then (spec_qrPattern.j1 kj10 a0 a3 a4 t311 true) else (spec_qrPattern.j1 kj10 a0 a3 a4 t311 (a4 == 6)))))) = some r := H
          have A16 := Aside0.mk A160
          clear A160
          obtain ⟨ji17, hji17⟩ : ∃ j_ : Int, (mn t313 t314) = j_ := ⟨_, rfl⟩
          replace H : (if (mn (ji17) t315) ≤ 4 then (if (mn (ji17) t315) = 2 then (some false) else (some ((mn (ji17) t315) != 4))) else ((spec_qrAlign.f kj10 l2 a3 a4).bind fun t316 => (if t316 ≥ 0 then (some (t316 != 1)) else (if a3 = 6 then (spec_qrPattern.j1 kj10 a0 a3 a4 t311 true) else (spec_qrPattern.j1 kj10 a0 a3 a4 t311 (a4 == 6)))))) = some r := by first | (rw [hji17] at H; exact H) | (simp only [hji17] at H ⊢; exact H)
          (try rw [hji17] at A14)
          (try rw [hji17] at A15)
          (try rw [hji17] at A16)
          have hji17_ : (if t314 < t313 then t314 else t313) = ji17 := hji17
          obtain ⟨ji18, hji18⟩ : ∃ j_ : Int, (mn (ji17) t315) = j_ := ⟨_, rfl⟩
          replace H : (if (ji18) ≤ 4 then (if (ji18) = 2 then (some false) else (some ((ji18) != 4))) else ((spec_qrAlign.f kj10 l2 a3 a4).bind fun t316 => (if t316 ≥ 0 then (some (t316 != 1)) else (if a3 = 6 then (spec_qrPattern.j1 kj10 a0 a3 a4 t311 true) else (spec_qrPattern.j1 kj10 a0 a3 a4 t311 (a4 == 6)))))) = some r := by first | (rw [hji18] at H; exact H) | (simp only [hji18] at H ⊢; exact H)
          (try rw [hji18] at A14)
          (try rw [hji18] at A15)
          (try rw [hji18] at A16)
          have hji18_ : (if t315 < (ji17) then t315 else (ji17)) = ji18 := hji18
          by_cases c19 : (ji18) ≤ 4
          · rw [if_pos c19] at H
            have c19b0 : decide ((ji18) ≤ 4) = true := decide_eq_true c19
            clear c19
            by_cases c20 : (ji18) = 2
            · rw [if_pos c20] at H
              have c20b0 : ((ji18) == 2) = true := beq_iff_eq.mpr c20
              have c20b1 : ((ji18) != 2) = false := bne_eq_false_iff_eq.mpr c20
              clear c20
              obtain rfl := Option.some.inj H
              go_wp2_with (first | ((with_reducible refine gate_callee (f := 98) rfl ?_); refine goesL_ (some 38) rfl rfl Tryz.func98 (by kernel_rfl) rfl #[.int .i64 a3, .int .i64 a4, .int .i64 3, .int .i64 3] rfl (by (try simp only [List.map_toArray, List.map_cons, List.map_nil]); first | done | rfl | (simp only [List.length_drop, List.length_take]; rfl)) ?_; (with_reducible refine (spec_qrFar.calls a3 a4 3 3 t313 _ A14.out).mono ?_); rintro e w21 ⟨rfl, hb⟩; refine ⟨_, rfl, ?_⟩; have n0_ := Aside0.mk (below_step (by repeat (first | (with_reducible first | exact HB.out | apply below_alloc | apply pw_below_drewN | apply below_drew1) | exact HB.out)) hb); clear HB; have HB := n0_; clear n0_; (try clear hb); (try clear hb2); (try clear hk); (try clear hi)) | ((with_reducible refine gate_callee (f := 98) rfl ?_); refine goesL_ (some 43) rfl rfl Tryz.func98 (by kernel_rfl) rfl #[.int .i64 a3, .int .i64 a4, .int .i64 3, .int .i64 (wrap64 (t311 - 4))] rfl (by (try simp only [List.map_toArray, List.map_cons, List.map_nil]); first | done | rfl | (simp only [List.length_drop, List.length_take]; rfl)) ?_; (with_reducible refine (spec_qrFar.calls a3 a4 3 (wrap64 (t311 - 4)) t314 _ A15.out).mono ?_); rintro e w22 ⟨rfl, hb⟩; refine ⟨_, rfl, ?_⟩; have n0_ := Aside0.mk (below_step (by repeat (first | (with_reducible first | exact HB.out | apply below_alloc | apply pw_below_drewN | apply below_drew1) | exact HB.out)) hb); clear HB; have HB := n0_; clear n0_; (try clear hb); (try clear hb2); (try clear hk); (try clear hi)) | ((with_reducible refine gate_callee (f := 98) rfl ?_); refine goesL_ (some 48) rfl rfl Tryz.func98 (by kernel_rfl) rfl #[.int .i64 a3, .int .i64 a4, .int .i64 (wrap64 (t311 - 4)), .int .i64 3] rfl (by (try simp only [List.map_toArray, List.map_cons, List.map_nil]); first | done | rfl | (simp only [List.length_drop, List.length_take]; rfl)) ?_; (with_reducible refine (spec_qrFar.calls a3 a4 (wrap64 (t311 - 4)) 3 t315 _ A16.out).mono ?_); rintro e w23 ⟨rfl, hb⟩; refine ⟨_, rfl, ?_⟩; have n0_ := Aside0.mk (below_step (by repeat (first | (with_reducible first | exact HB.out | apply below_alloc | apply pw_below_drewN | apply below_drew1) | exact HB.out)) hb); clear HB; have HB := n0_; clear n0_; (try clear hb); (try clear hb2); (try clear hk); (try clear hi)))
              go_ret
              exact ⟨by first | rfl | (simp [errW_none, errW_some] <;> rfl) | (simp only [← hji17, ← hji18]; first | rfl | (simp [errW_none, errW_some] <;> rfl)) | (simp [*, errW_none, errW_some] <;> rfl), by repeat (first | (with_reducible first | exact HB.out | apply below_alloc | apply pw_below_drewN | apply below_drew1) | exact HB.out)⟩
            · rw [if_neg c20] at H
              have c20b0 : ((ji18) == 2) = false := beq_eq_false_iff_ne.mpr c20
              have c20b1 : ((ji18) != 2) = true := bne_iff_ne.mpr c20
              obtain rfl := Option.some.inj H
              go_wp2_with (first | ((with_reducible refine gate_callee (f := 98) rfl ?_); refine goesL_ (some 38) rfl rfl Tryz.func98 (by kernel_rfl) rfl #[.int .i64 a3, .int .i64 a4, .int .i64 3, .int .i64 3] rfl (by (try simp only [List.map_toArray, List.map_cons, List.map_nil]); first | done | rfl | (simp only [List.length_drop, List.length_take]; rfl)) ?_; (with_reducible refine (spec_qrFar.calls a3 a4 3 3 t313 _ A14.out).mono ?_); rintro e w24 ⟨rfl, hb⟩; refine ⟨_, rfl, ?_⟩; have n0_ := Aside0.mk (below_step (by repeat (first | (with_reducible first | exact HB.out | apply below_alloc | apply pw_below_drewN | apply below_drew1) | exact HB.out)) hb); clear HB; have HB := n0_; clear n0_; (try clear hb); (try clear hb2); (try clear hk); (try clear hi)) | ((with_reducible refine gate_callee (f := 98) rfl ?_); refine goesL_ (some 43) rfl rfl Tryz.func98 (by kernel_rfl) rfl #[.int .i64 a3, .int .i64 a4, .int .i64 3, .int .i64 (wrap64 (t311 - 4))] rfl (by (try simp only [List.map_toArray, List.map_cons, List.map_nil]); first | done | rfl | (simp only [List.length_drop, List.length_take]; rfl)) ?_; (with_reducible refine (spec_qrFar.calls a3 a4 3 (wrap64 (t311 - 4)) t314 _ A15.out).mono ?_); rintro e w25 ⟨rfl, hb⟩; refine ⟨_, rfl, ?_⟩; have n0_ := Aside0.mk (below_step (by repeat (first | (with_reducible first | exact HB.out | apply below_alloc | apply pw_below_drewN | apply below_drew1) | exact HB.out)) hb); clear HB; have HB := n0_; clear n0_; (try clear hb); (try clear hb2); (try clear hk); (try clear hi)) | ((with_reducible refine gate_callee (f := 98) rfl ?_); refine goesL_ (some 48) rfl rfl Tryz.func98 (by kernel_rfl) rfl #[.int .i64 a3, .int .i64 a4, .int .i64 (wrap64 (t311 - 4)), .int .i64 3] rfl (by (try simp only [List.map_toArray, List.map_cons, List.map_nil]); first | done | rfl | (simp only [List.length_drop, List.length_take]; rfl)) ?_; (with_reducible refine (spec_qrFar.calls a3 a4 (wrap64 (t311 - 4)) 3 t315 _ A16.out).mono ?_); rintro e w26 ⟨rfl, hb⟩; refine ⟨_, rfl, ?_⟩; have n0_ := Aside0.mk (below_step (by repeat (first | (with_reducible first | exact HB.out | apply below_alloc | apply pw_below_drewN | apply below_drew1) | exact HB.out)) hb); clear HB; have HB := n0_; clear n0_; (try clear hb); (try clear hb2); (try clear hk); (try clear hi)))
              go_ret
              exact ⟨by first | rfl | (simp [errW_none, errW_some] <;> rfl) | (simp only [← hji17, ← hji18]; first | rfl | (simp [errW_none, errW_some] <;> rfl)) | (simp [*, errW_none, errW_some] <;> rfl), by repeat (first | (with_reducible first | exact HB.out | apply below_alloc | apply pw_below_drewN | apply below_drew1) | exact HB.out)⟩
          · rw [if_neg c19] at H
            have c19b0 : decide ((ji18) ≤ 4) = false := decide_eq_false c19
            clear c19
            replace H := Option.bind_eq_some_iff.mp H
            obtain ⟨t316, A270, H⟩ := H
            replace H : (if t316 ≥ 0 then (some (t316 != 1)) else (if a3 = 6 then (spec_qrPattern.j1 kj10 a0 a3 a4 t311 true) else (spec_qrPattern.j1 kj10 a0 a3 a4 t311 (a4 == 6)))) = some r := H
            have A27 := Aside0.mk A270
            clear A270
            by_cases c28 : t316 ≥ 0
            · rw [if_pos c28] at H
              have c28b0 : decide (0 ≤ t316) = true := decide_eq_true c28
              clear c28
              obtain rfl := Option.some.inj H
              go_wp2_with (first | ((with_reducible refine gate_callee (f := 98) rfl ?_); refine goesL_ (some 38) rfl rfl Tryz.func98 (by kernel_rfl) rfl #[.int .i64 a3, .int .i64 a4, .int .i64 3, .int .i64 3] rfl (by (try simp only [List.map_toArray, List.map_cons, List.map_nil]); first | done | rfl | (simp only [List.length_drop, List.length_take]; rfl)) ?_; (with_reducible refine (spec_qrFar.calls a3 a4 3 3 t313 _ A14.out).mono ?_); rintro e w29 ⟨rfl, hb⟩; refine ⟨_, rfl, ?_⟩; have n0_ := Aside0.mk (below_step (by repeat (first | (with_reducible first | exact HB.out | apply below_alloc | apply pw_below_drewN | apply below_drew1) | exact HB.out)) hb); clear HB; have HB := n0_; clear n0_; (try clear hb); (try clear hb2); (try clear hk); (try clear hi)) | ((with_reducible refine gate_callee (f := 98) rfl ?_); refine goesL_ (some 43) rfl rfl Tryz.func98 (by kernel_rfl) rfl #[.int .i64 a3, .int .i64 a4, .int .i64 3, .int .i64 (wrap64 (t311 - 4))] rfl (by (try simp only [List.map_toArray, List.map_cons, List.map_nil]); first | done | rfl | (simp only [List.length_drop, List.length_take]; rfl)) ?_; (with_reducible refine (spec_qrFar.calls a3 a4 3 (wrap64 (t311 - 4)) t314 _ A15.out).mono ?_); rintro e w30 ⟨rfl, hb⟩; refine ⟨_, rfl, ?_⟩; have n0_ := Aside0.mk (below_step (by repeat (first | (with_reducible first | exact HB.out | apply below_alloc | apply pw_below_drewN | apply below_drew1) | exact HB.out)) hb); clear HB; have HB := n0_; clear n0_; (try clear hb); (try clear hb2); (try clear hk); (try clear hi)) | ((with_reducible refine gate_callee (f := 98) rfl ?_); refine goesL_ (some 48) rfl rfl Tryz.func98 (by kernel_rfl) rfl #[.int .i64 a3, .int .i64 a4, .int .i64 (wrap64 (t311 - 4)), .int .i64 3] rfl (by (try simp only [List.map_toArray, List.map_cons, List.map_nil]); first | done | rfl | (simp only [List.length_drop, List.length_take]; rfl)) ?_; (with_reducible refine (spec_qrFar.calls a3 a4 (wrap64 (t311 - 4)) 3 t315 _ A16.out).mono ?_); rintro e w31 ⟨rfl, hb⟩; refine ⟨_, rfl, ?_⟩; have n0_ := Aside0.mk (below_step (by repeat (first | (with_reducible first | exact HB.out | apply below_alloc | apply pw_below_drewN | apply below_drew1) | exact HB.out)) hb); clear HB; have HB := n0_; clear n0_; (try clear hb); (try clear hb2); (try clear hk); (try clear hi)) | ((with_reducible refine gate_callee (f := 96) rfl ?_); refine goesL_ (some 61) rfl rfl Tryz.func96 (by kernel_rfl) rfl #[.slice A2 l2.length c2, .int .i64 a3, .int .i64 a4] rfl (by (try simp only [List.map_toArray, List.map_cons, List.map_nil]); first | done | rfl | (simp only [List.length_drop, List.length_take]; rfl)) ?_; (with_reducible refine (spec_qrAlign.calls kj10 _ _ l2 a3 a4 t316 _ ?side1 ?side2 A27.out).mono ?_); (case side1 => repeat (first | exact (Kd.C_below HR2.out HB.out) | (with_reducible refine Kd.C_alloc ?_ _) | (with_reducible refine Kd.C_drewN ?_ _) | (with_reducible refine Kd.C_drew ?_))); (case side2 => exact HC2.out); rintro e w32 ⟨rfl, hb⟩; refine ⟨_, rfl, ?_⟩; have n0_ := Aside0.mk (below_step (by repeat (first | (with_reducible first | exact HB.out | apply below_alloc | apply pw_below_drewN | apply below_drew1) | exact HB.out)) hb); clear HB; have HB := n0_; clear n0_; (try clear hb); (try clear hb2); (try clear hk); (try clear hi)))
              go_ret
              exact ⟨by first | rfl | (simp [errW_none, errW_some] <;> rfl) | (simp only [← hji17, ← hji18]; first | rfl | (simp [errW_none, errW_some] <;> rfl)) | (simp [*, errW_none, errW_some] <;> rfl), by repeat (first | (with_reducible first | exact HB.out | apply below_alloc | apply pw_below_drewN | apply below_drew1) | exact HB.out)⟩
            · rw [if_neg c28] at H
              have c28b0 : decide (0 ≤ t316) = false := decide_eq_false c28
              clear c28
              have HC33 := Aside0.mk H
              clear H
              go_upto_region 13 with (first | ((with_reducible refine gate_callee (f := 98) rfl ?_); refine goesL_ (some 38) rfl rfl Tryz.func98 (by kernel_rfl) rfl #[.int .i64 a3, .int .i64 a4, .int .i64 3, .int .i64 3] rfl (by (try simp only [List.map_toArray, List.map_cons, List.map_nil]); first | done | rfl | (simp only [List.length_drop, List.length_take]; rfl)) ?_; (with_reducible refine (spec_qrFar.calls a3 a4 3 3 t313 _ A14.out).mono ?_); rintro e w34 ⟨rfl, hb⟩; refine ⟨_, rfl, ?_⟩; have n0_ := Aside0.mk (below_step (by repeat (first | (with_reducible first | exact HB.out | apply below_alloc | apply pw_below_drewN | apply below_drew1) | exact HB.out)) hb); clear HB; have HB := n0_; clear n0_; (try clear hb); (try clear hb2); (try clear hk); (try clear hi)) | ((with_reducible refine gate_callee (f := 98) rfl ?_); refine goesL_ (some 43) rfl rfl Tryz.func98 (by kernel_rfl) rfl #[.int .i64 a3, .int .i64 a4, .int .i64 3, .int .i64 (wrap64 (t311 - 4))] rfl (by (try simp only [List.map_toArray, List.map_cons, List.map_nil]); first | done | rfl | (simp only [List.length_drop, List.length_take]; rfl)) ?_; (with_reducible refine (spec_qrFar.calls a3 a4 3 (wrap64 (t311 - 4)) t314 _ A15.out).mono ?_); rintro e w35 ⟨rfl, hb⟩; refine ⟨_, rfl, ?_⟩; have n0_ := Aside0.mk (below_step (by repeat (first | (with_reducible first | exact HB.out | apply below_alloc | apply pw_below_drewN | apply below_drew1) | exact HB.out)) hb); clear HB; have HB := n0_; clear n0_; (try clear hb); (try clear hb2); (try clear hk); (try clear hi)) | ((with_reducible refine gate_callee (f := 98) rfl ?_); refine goesL_ (some 48) rfl rfl Tryz.func98 (by kernel_rfl) rfl #[.int .i64 a3, .int .i64 a4, .int .i64 (wrap64 (t311 - 4)), .int .i64 3] rfl (by (try simp only [List.map_toArray, List.map_cons, List.map_nil]); first | done | rfl | (simp only [List.length_drop, List.length_take]; rfl)) ?_; (with_reducible refine (spec_qrFar.calls a3 a4 (wrap64 (t311 - 4)) 3 t315 _ A16.out).mono ?_); rintro e w36 ⟨rfl, hb⟩; refine ⟨_, rfl, ?_⟩; have n0_ := Aside0.mk (below_step (by repeat (first | (with_reducible first | exact HB.out | apply below_alloc | apply pw_below_drewN | apply below_drew1) | exact HB.out)) hb); clear HB; have HB := n0_; clear n0_; (try clear hb); (try clear hb2); (try clear hk); (try clear hi)) | ((with_reducible refine gate_callee (f := 96) rfl ?_); refine goesL_ (some 61) rfl rfl Tryz.func96 (by kernel_rfl) rfl #[.slice A2 l2.length c2, .int .i64 a3, .int .i64 a4] rfl (by (try simp only [List.map_toArray, List.map_cons, List.map_nil]); first | done | rfl | (simp only [List.length_drop, List.length_take]; rfl)) ?_; (with_reducible refine (spec_qrAlign.calls kj10 _ _ l2 a3 a4 t316 _ ?side1 ?side2 A27.out).mono ?_); (case side1 => repeat (first | exact (Kd.C_below HR2.out HB.out) | (with_reducible refine Kd.C_alloc ?_ _) | (with_reducible refine Kd.C_drewN ?_ _) | (with_reducible refine Kd.C_drew ?_))); (case side2 => exact HC2.out); rintro e w37 ⟨rfl, hb⟩; refine ⟨_, rfl, ?_⟩; have n0_ := Aside0.mk (below_step (by repeat (first | (with_reducible first | exact HB.out | apply below_alloc | apply pw_below_drewN | apply below_drew1) | exact HB.out)) hb); clear HB; have HB := n0_; clear n0_; (try clear hb); (try clear hb2); (try clear hk); (try clear hi)))
              (try simp only [Act.put, List.setIfInBounds_toArray, List.set_cons_zero, List.set_cons_succ])
              go_cut [71] (fun v71 wc => ∃ (kq : Nat) (x71_32 : Bool), v71 = .bool x71_32 ∧ Aside0 (spec_qrPattern.j1 kq a0 a3 a4 t311 x71_32 = some r) ∧ Aside0 (kq ≤ kj10) ∧ Aside0 (Below w.heap.size w wc))
              case first =>
                have H := HC33.out
                clear HC33
                by_cases c38 : a3 = 6
                · rw [if_pos c38] at H
                  have c38b0 : (a3 == 6) = true := beq_iff_eq.mpr c38
                  have c38b1 : (a3 != 6) = false := bne_eq_false_iff_eq.mpr c38
                  clear c38
                  (first | rw [c38b0] | (simp only [i64_w, i32_w]; rw [c38b0]) | skip)
                  have H' := Aside0.mk H
                  clear H
                  go_wp2
                  go_meet
                  case rel => exact ⟨_, (true), (by first | rfl | (simp; done) | (simp [*]; done)), H', ⟨by have := HJ10.out; first | omega | exact Nat.le_refl _⟩, ⟨by repeat (first | (with_reducible first | exact HB.out | apply below_alloc | apply pw_below_drewN | apply below_drew1) | exact HB.out)⟩⟩
                · rw [if_neg c38] at H
                  have c38b0 : (a3 == 6) = false := beq_eq_false_iff_ne.mpr c38
                  have c38b1 : (a3 != 6) = true := bne_iff_ne.mpr c38
                  (first | rw [c38b0] | (simp only [i64_w, i32_w]; rw [c38b0]) | skip)
                  have H' := Aside0.mk H
                  clear H
                  go_wp2
                  go_meet
                  case rel => exact ⟨_, ((a4 == 6)), (by first | rfl | (simp; done) | (simp [*]; done)), H', ⟨by have := HJ10.out; first | omega | exact Nat.le_refl _⟩, ⟨by repeat (first | (with_reducible first | exact HB.out | apply below_alloc | apply pw_below_drewN | apply below_drew1) | exact HB.out)⟩⟩
              case rest =>
                clear HC33
                try clear c1
                try clear c2
                try clear p2
                try clear c3
                try clear c4
                try clear c5
                try clear p6
                try clear c8
                try clear c8b0
                try clear c9
                try clear c9b0
                try clear c9b1
                try clear c12
                try clear c12b0
                try clear c12b1
                try clear c13
                try clear c19
                try clear c19b0
                try clear c20
                try clear c20b0
                try clear c20b1
                try clear c28
                try clear c28b0
                try clear c38
                try clear c38b0
                try clear c38b1
                try clear p2
                try clear p6
                obtain ⟨kq, x71_32, rfl, HA, HJ32, HB⟩ := hcut
                cases kq with
                | zero => exact absurd HA.out (by simp [spec_qrPattern.j1])
                | succ kj32 =>
                  have H := HA.out
                  clear HA
                  simp only [spec_qrPattern.j1] at H
                  by_cases c39 : x71_32 = true
                  · subst c39
                    have H1 : (some ((Int.tmod (wrap64 (a3 + a4)) 2) == 0)) = some r := by rw [if_pos rfl] at H; exact H
                    clear H
                    have H := H1
                    clear H1
                    obtain rfl := Option.some.inj H
                    go_wp2
                    go_ret
                    exact ⟨by first | rfl | (simp [errW_none, errW_some] <;> rfl) | (simp only [← hji17, ← hji18]; first | rfl | (simp [errW_none, errW_some] <;> rfl)) | (simp [*, errW_none, errW_some] <;> rfl), by repeat (first | (with_reducible first | exact HB.out | apply below_alloc | apply pw_below_drewN | apply below_drew1) | exact HB.out)⟩
                  · replace c39 := Bool.eq_false_iff.mpr c39
                    subst c39
                    have H1 : (if a3 < a4 then ((spec_QRVersionBits.f kj32 a0).bind fun t317 => (if 0 ≤ (wrap64 ((wrap64 ((wrap64 ((wrap64 (a3 * 3)) + a4)) - t311)) + 11)) then (some ((Go.bits .and .i64 (shr .i64 t317 (wrap64 ((wrap64 ((wrap64 ((wrap64 (a3 * 3)) + a4)) - t311)) + 11))) 1) == 1)) else (none))) else ((spec_QRVersionBits.f kj32 a0).bind fun t318 => (if 0 ≤ (wrap64 ((wrap64 ((wrap64 ((wrap64 (a4 * 3)) + a3)) - t311)) + 11)) then (some ((Go.bits .and .i64 (shr .i64 t318 (wrap64 ((wrap64 ((wrap64 ((wrap64 (a4 * 3)) + a3)) - t311)) + 11))) 1) == 1)) else (none)))) = some r := by rw [if_neg (show ¬ (false = true) by decide)] at H; exact H
                    clear H
                    have H := H1
                    clear H1
                    by_cases c40 : a3 < a4
                    · rw [if_pos c40] at H
                      have c40b0 : decide (a3 < a4) = true := decide_eq_true c40
                      clear c40
                      replace H := Option.bind_eq_some_iff.mp H
                      obtain ⟨t317, A410, H⟩ := H
                      replace H : (if 0 ≤ (wrap64 ((wrap64 ((wrap64 ((wrap64 (a3 * 3)) + a4)) - t311)) + 11)) then (some ((Go.bits .and .i64 (shr .i64 t317 (wrap64 ((wrap64 ((wrap64 ((wrap64 (a3 * 3)) + a4)) - t311)) + 11))) 1) == 1)) else (none)) = some r := H
                      have A41 := Aside0.mk A410
                      clear A410
                      obtain ⟨ji42, hji42⟩ : ∃ j_ : Int, (wrap64 ((wrap64 ((wrap64 ((wrap64 (a3 * 3)) + a4)) - t311)) + 11)) = j_ := ⟨_, rfl⟩
                      replace H : (if 0 ≤ (ji42) then (some ((Go.bits .and .i64 (shr .i64 t317 (ji42)) 1) == 1)) else (none)) = some r := by first | (rw [hji42] at H; exact H) | (simp only [hji42] at H ⊢; exact H)
                      (try rw [hji42] at A41)
                      have hji42w : (IntKind.i64.wrap ((wrap64 ((wrap64 ((wrap64 (a3 * 3)) + a4)) - t311)) + 11)) = ji42 := (i64_w _).trans hji42
                      by_cases c43 : 0 ≤ (ji42)
                      · rw [if_pos c43] at H
                        have c43b0 := eq_true c43
                        have c43b1 : decide (0 ≤ (ji42)) = true := decide_eq_true c43
                        clear c43
                        obtain ⟨ji44, hji44⟩ : ∃ j_ : Int, (shr .i64 t317 (ji42)) = j_ := ⟨_, rfl⟩
                        replace H : (some ((Go.bits .and .i64 (ji44) 1) == 1)) = some r := by first | (rw [hji44] at H; exact H) | (simp only [hji44] at H ⊢; exact H)
                        (try rw [hji44] at A41)
                        have hji44_ : (t317 / 2 ^ min (ji42).toNat 64) = ji44 := hji44
                        have hji44z : (ji42) ≤ 64 → (t317 / 2 ^ (ji42).toNat) = ji44 := shr_small hji44
                        obtain rfl := Option.some.inj H
                        go_wp2_with (first | ((with_reducible refine gate_callee (f := 99) rfl ?_); refine goesL_ (some 81) rfl rfl Tryz.func99 (by kernel_rfl) rfl #[.int .i64 a0] rfl (by (try simp only [List.map_toArray, List.map_cons, List.map_nil]); first | done | rfl | (simp only [List.length_drop, List.length_take]; rfl)) ?_; (with_reducible refine (spec_QRVersionBits.calls kj32 a0 t317 _ A41.out).mono ?_); rintro e w' ⟨rfl, ⟨nd, rfl⟩⟩; refine ⟨_, rfl, ?_⟩))
                        go_ret
                        exact ⟨by first | rfl | (simp [errW_none, errW_some] <;> rfl) | (simp only [← hji17, ← hji18, ← hji42, ← hji44]; first | rfl | (simp [errW_none, errW_some] <;> rfl)) | (simp [*, errW_none, errW_some] <;> rfl), by repeat (first | (with_reducible first | exact HB.out | apply below_alloc | apply pw_below_drewN | apply below_drew1) | exact HB.out)⟩
                      · rw [if_neg c43] at H
                        exact absurd H (by simp)
                    · rw [if_neg c40] at H
                      have c40b0 : decide (a3 < a4) = false := decide_eq_false c40
                      clear c40
                      replace H := Option.bind_eq_some_iff.mp H
                      obtain ⟨t318, A450, H⟩ := H
                      replace H : (if 0 ≤ (wrap64 ((wrap64 ((wrap64 ((wrap64 (a4 * 3)) + a3)) - t311)) + 11)) then (some ((Go.bits .and .i64 (shr .i64 t318 (wrap64 ((wrap64 ((wrap64 ((wrap64 (a4 * 3)) + a3)) - t311)) + 11))) 1) == 1)) else (none)) = some r := H
                      have A45 := Aside0.mk A450
                      clear A450
                      obtain ⟨ji46, hji46⟩ : ∃ j_ : Int, (wrap64 ((wrap64 ((wrap64 ((wrap64 (a4 * 3)) + a3)) - t311)) + 11)) = j_ := ⟨_, rfl⟩
                      replace H : (if 0 ≤ (ji46) then (some ((Go.bits .and .i64 (shr .i64 t318 (ji46)) 1) == 1)) else (none)) = some r := by first | (rw [hji46] at H; exact H) | (simp only [hji46] at H ⊢; exact H)
                      (try rw [hji46] at A45)
                      have hji46w : (IntKind.i64.wrap ((wrap64 ((wrap64 ((wrap64 (a4 * 3)) + a3)) - t311)) + 11)) = ji46 := (i64_w _).trans hji46
                      by_cases c47 : 0 ≤ (ji46)
                      · rw [if_pos c47] at H
                        have c47b0 := eq_true c47
                        have c47b1 : decide (0 ≤ (ji46)) = true := decide_eq_true c47
                        clear c47
                        obtain ⟨ji48, hji48⟩ : ∃ j_ : Int, (shr .i64 t318 (ji46)) = j_ := ⟨_, rfl⟩
                        replace H : (some ((Go.bits .and .i64 (ji48) 1) == 1)) = some r := by first | (rw [hji48] at H; exact H) | (simp only [hji48] at H ⊢; exact H)
                        (try rw [hji48] at A45)
                        have hji48_ : (t318 / 2 ^ min (ji46).toNat 64) = ji48 := hji48
                        have hji48z : (ji46) ≤ 64 → (t318 / 2 ^ (ji46).toNat) = ji48 := shr_small hji48
                        obtain rfl := Option.some.inj H
                        go_wp2_with (first | ((with_reducible refine gate_callee (f := 99) rfl ?_); refine goesL_ (some 93) rfl rfl Tryz.func99 (by kernel_rfl) rfl #[.int .i64 a0] rfl (by (try simp only [List.map_toArray, List.map_cons, List.map_nil]); first | done | rfl | (simp only [List.length_drop, List.length_take]; rfl)) ?_; (with_reducible refine (spec_QRVersionBits.calls kj32 a0 t318 _ A45.out).mono ?_); rintro e w' ⟨rfl, ⟨nd, rfl⟩⟩; refine ⟨_, rfl, ?_⟩))
                        go_ret
                        exact ⟨by first | rfl | (simp [errW_none, errW_some] <;> rfl) | (simp only [← hji17, ← hji18, ← hji46, ← hji48]; first | rfl | (simp [errW_none, errW_some] <;> rfl)) | (simp [*, errW_none, errW_some] <;> rfl), by repeat (first | (with_reducible first | exact HB.out | apply below_alloc | apply pw_below_drewN | apply below_drew1) | exact HB.out)⟩
                      · rw [if_neg c47] at H
                        exact absurd H (by simp)

/-- THE ONE PURE STATEMENT of spec_qrPattern: yours. -/
def spec_qrPattern.Pure : Prop := ∀ (a0 : Int) (a1 : Int) (l2 : List Int) (a3 : Int) (a4 : Int), (Lit.int .i64 a0).wf = true → (Lit.int .i64 a1).wf = true → l2.length ≤ maxLen → l2.length * 8 ≤ 140737488351232 → (∀ x ∈ l2, (Lit.int .i64 x).wf = true) → (Lit.int .i64 a3).wf = true → (Lit.int .i64 a4).wf = true → ∃ k, spec_qrPattern.f k a0 a1 l2 a3 a4 = some true
theorem spec_qrPattern.walk (P : spec_qrPattern.Pure) (a0 : Int) (a1 : Int) (a2 : Option Addr) (len2 cap2 : Nat) (z2 : List Int) (a3 : Int) (a4 : Int) (w : World) (w0 : (Lit.int .i64 a0).wf = true) (w1 : (Lit.int .i64 a1).wf = true) (w2 : (a2 = none ∧ len2 = 0 ∧ cap2 = 0 ∧ z2 = []) ∨ ∃ x, a2 = some x ∧ len2 ≤ cap2 ∧ cap2 ≤ maxLen ∧ z2.length = cap2 ∧ (∀ i, i < z2.length → w.cell? (x.add i) = some (.int .i64 (z2.getD i 0))) ∧ ∀ n ∈ z2, (Lit.int .i64 n).wf = true) (y2 : len2 * 8 ≤ 140737488351232) (w3 : (Lit.int .i64 a3).wf = true) (w4 : (Lit.int .i64 a4).wf = true) :
    Calls Tryz.prog 50 #[.int .i64 a0, .int .i64 a1, .slice a2 len2 cap2, .int .i64 a3, .int .i64 a4] w fun e w' => e = .returned (.bool true) ∧ Below w.heap.size w w' := by
  obtain ⟨l2, rfl, hr2, hm2, hw2, hc2⟩ := ReadsInt.ofRowC w2
  obtain ⟨k, h⟩ := P a0 a1 l2 a3 a4 w0 w1 hm2 y2 hw2 w3 w4
  refine (spec_qrPattern.calls k a0 a1 _ _ l2 a3 a4 true w (Kd.C_of_reads (d := (0 : Int)) (h1 := fun _ => rfl) hr2) hc2 h).mono ?_
  rintro e w' ⟨rfl, hd⟩
  exact ⟨rfl, hd⟩

/-! ### spec_QRFormatBits: function 47 -/
def spec_QRFormatBits.f (k : Nat) (a0 : Int) (a1 : Int) : Option (Int) := (spec_qrRest.f k (wrap64 ((Go.bits .or .i64 (wrap64 (a0 * 8)) a1) * 1024)) 1335 11).bind fun t294 => (some (Go.bits .xor .i64 (Go.bits .or .i64 (wrap64 ((Go.bits .or .i64 (wrap64 (a0 * 8)) a1) * 1024)) t294) 21522))
theorem spec_QRFormatBits.mono : ∀ a0 a1 k, LeO (spec_QRFormatBits.f k a0 a1) (spec_QRFormatBits.f (k + 1) a0 a1) := by
  intro a0 a1 k
  unfold spec_QRFormatBits.f
  repeat' first
      | (with_reducible exact spec_qrRest.mono _ _ _ _)
      | (with_reducible exact LeO.refl _)
      | (with_reducible exact LeO.none _)
      | (with_reducible refine LeO.ite ?_ ?_)
      | (with_reducible refine LeO.bind ?_ (fun _ => ?_))
      | exact spec_qrRest.mono _ _ _ _
      | exact LeO.none _
      | refine LeO.ite ?_ ?_
      | refine LeO.bind ?_ (fun _ => ?_)
set_option maxHeartbeats 8000000 in
set_option maxRecDepth 100000 in
theorem spec_QRFormatBits.calls (k : Nat) (a0 : Int) (a1 : Int) (r : Int) (w : World) (h : spec_QRFormatBits.f k a0 a1 = some r) :
    Calls Tryz.prog 47 #[.int .i64 a0, .int .i64 a1] w fun e w' => e = .returned (.int .i64 r) ∧ Drawn0 w w' := by
  have H : ((spec_qrRest.f k (wrap64 ((Go.bits .or .i64 (wrap64 (a0 * 8)) a1) * 1024)) 1335 11).bind fun t294 => (some (Go.bits .xor .i64 (Go.bits .or .i64 (wrap64 ((Go.bits .or .i64 (wrap64 (a0 * 8)) a1) * 1024)) t294) 21522))) = some r := h
  clear h
  replace H := Option.bind_eq_some_iff.mp H
  obtain ⟨t294, A30, H⟩ := H
  replace H : (some (Go.bits .xor .i64 (Go.bits .or .i64 (wrap64 ((Go.bits .or .i64 (wrap64 (a0 * 8)) a1) * 1024)) t294) 21522)) = some r := H
  have A3 := Aside0.mk A30
  clear A30
  obtain rfl := Option.some.inj H
  go_enter Tryz.func47, Tryz.ntmps47
  go_wp2_with (first | ((with_reducible refine gate_callee (f := 95) rfl ?_); refine goesL_ (some 14) rfl rfl Tryz.func95 (by kernel_rfl) rfl #[.int .i64 (wrap64 ((Go.bits .or .i64 (wrap64 (a0 * 8)) a1) * 1024)), .int .i64 1335, .int .i64 11] rfl (by (try simp only [List.map_toArray, List.map_cons, List.map_nil]); first | done | rfl | (simp only [List.length_drop, List.length_take]; rfl)) ?_; (with_reducible refine (spec_qrRest.calls k (wrap64 ((Go.bits .or .i64 (wrap64 (a0 * 8)) a1) * 1024)) 1335 11 t294 _ A3.out).mono ?_); rintro e w' ⟨rfl, ⟨nd, rfl⟩⟩; refine ⟨_, rfl, ?_⟩))
  go_ret
  exact ⟨by first | rfl | (simp; done) | (simp [*]; done), by repeat (first | exact Drawn0.refl _ | apply Drawn0.step)⟩

/-! ### spec_QRCenters: function 48 -/
mutual
def spec_QRCenters.j0 : Nat → Int → Int → Int → Option (List Int)
  | 0, _, _, _ => none
  | k + 1, x0, x3, x4 => if 0 ≤ x3 then (if (x3 : Int).toNat ≤ 35184372088832 then ((some (List.replicate (x3 : Int).toNat 0 : List Int)).bind fun y295 => (if 0 < (y295.length : Int) then (spec_QRCenters.l0 k x0 x3 x4 (y295.set (0 : Int).toNat 6) 1) else (none))) else (none)) else (none)
def spec_QRCenters.l0 : Nat → Int → Int → Int → List Int → Int → Option (List Int)
  | 0, _, _, _, _, _ => none
  | k + 1, x0, x3, x4, x5, x6 => if x6 < x3 then ((spec_QRDimension.f x0).bind fun t299 => (if 0 ≤ x6 then (if x6 < (x5.length : Int) then (spec_QRCenters.l0 k x0 x3 x4 (x5.set (x6 : Int).toNat (wrap64 ((wrap64 (t299 - 7)) - (wrap64 (x4 * (wrap64 ((wrap64 (x3 - 1)) - x6))))))) (wrap64 (x6 + 1))) else (none)) else (none))) else (some x5)
end
def spec_QRCenters.f (k : Nat) (a0 : Int) : Option (List Int) := if a0 = 1 then (some ([] : List Int)) else (if (wrap64 ((wrap64 ((wrap64 ((wrap64 (Int.tdiv a0 7)) + 2)) * 2)) - 2)) = 0 then (none) else (if a0 = 32 then (spec_QRCenters.j0 k a0 (wrap64 ((wrap64 (Int.tdiv a0 7)) + 2)) 26) else (spec_QRCenters.j0 k a0 (wrap64 ((wrap64 (Int.tdiv a0 7)) + 2)) (wrap64 ((wrap64 (Int.tdiv (wrap64 ((wrap64 ((wrap64 (a0 * 4)) + (wrap64 ((wrap64 ((wrap64 (Int.tdiv a0 7)) + 2)) * 2)))) + 1)) (wrap64 ((wrap64 ((wrap64 ((wrap64 (Int.tdiv a0 7)) + 2)) * 2)) - 2)))) * 2)))))
theorem spec_QRCenters.mono_l : ∀ k, (∀ y0 y1 y2, LeO (spec_QRCenters.j0 k y0 y1 y2) (spec_QRCenters.j0 (k + 1) y0 y1 y2)) ∧ (∀ y0 y1 y2 y3 y4, LeO (spec_QRCenters.l0 k y0 y1 y2 y3 y4) (spec_QRCenters.l0 (k + 1) y0 y1 y2 y3 y4))
  | 0 => ⟨fun _ _ _ r h => by simp [spec_QRCenters.j0] at h, fun _ _ _ _ _ r h => by simp [spec_QRCenters.l0] at h⟩
  | k + 1 => by
    obtain ⟨ih0, ih1⟩ := spec_QRCenters.mono_l k
    refine ⟨?_, ?_⟩
    · intro y0 y1 y2
      unfold spec_QRCenters.j0
      repeat' first
      | (with_reducible exact ih0 _ _ _)
      | (with_reducible exact ih1 _ _ _ _ _)
      | (with_reducible exact LeO.refl _)
      | (with_reducible exact LeO.none _)
      | (with_reducible refine LeO.ite ?_ ?_)
      | (with_reducible refine LeO.bind ?_ (fun _ => ?_))
      | exact ih0 _ _ _
      | exact ih1 _ _ _ _ _
      | exact LeO.none _
      | refine LeO.ite ?_ ?_
      | refine LeO.bind ?_ (fun _ => ?_)
    · intro y0 y1 y2 y3 y4
      unfold spec_QRCenters.l0
      repeat' first
      | (with_reducible exact ih0 _ _ _)
      | (with_reducible exact ih1 _ _ _ _ _)
      | (with_reducible exact LeO.refl _)
      | (with_reducible exact LeO.none _)
      | (with_reducible refine LeO.ite ?_ ?_)
      | (with_reducible refine LeO.bind ?_ (fun _ => ?_))
      | exact ih0 _ _ _
      | exact ih1 _ _ _ _ _
      | exact LeO.none _
      | refine LeO.ite ?_ ?_
      | refine LeO.bind ?_ (fun _ => ?_)
theorem spec_QRCenters.mono : ∀ a0 k, LeO (spec_QRCenters.f k a0) (spec_QRCenters.f (k + 1) a0) := by
  intro a0 k
  obtain ⟨ih0, ih1⟩ := spec_QRCenters.mono_l k
  unfold spec_QRCenters.f
  repeat' first
      | (with_reducible exact ih0 _ _ _)
      | (with_reducible exact ih1 _ _ _ _ _)
      | (with_reducible exact LeO.refl _)
      | (with_reducible exact LeO.none _)
      | (with_reducible refine LeO.ite ?_ ?_)
      | (with_reducible refine LeO.bind ?_ (fun _ => ?_))
      | exact ih0 _ _ _
      | exact ih1 _ _ _ _ _
      | exact LeO.none _
      | refine LeO.ite ?_ ?_
      | refine LeO.bind ?_ (fun _ => ?_)
set_option maxHeartbeats 8000000 in
set_option maxRecDepth 100000 in
theorem spec_QRCenters.calls (k : Nat) (a0 : Int) (r : List Int) (w : World) (h : spec_QRCenters.f k a0 = some r) :
    Calls Tryz.prog 48 #[.int .i64 a0] w fun e w' => ∃ v0_ : Value, e = .returned (v0_) ∧ Kd.R (Kd.int .i64) 3 w' w.heap.size (fun _ => True) v0_ r ∧ Below w.heap.size w w' := by
  have HB := Aside0.mk (Below.refl w.heap.size w)
  have H : (if a0 = 1 then (some ([] : List Int)) else (if (wrap64 ((wrap64 ((wrap64 ((wrap64 (Int.tdiv a0 7)) + 2)) * 2)) - 2)) = 0 then (none) else (if a0 = 32 then (spec_QRCenters.j0 k a0 (wrap64 ((wrap64 (Int.tdiv a0 7)) + 2)) 26) else (spec_QRCenters.j0 k a0 (wrap64 ((wrap64 (Int.tdiv a0 7)) + 2)) (wrap64 ((wrap64 (Int.tdiv (wrap64 ((wrap64 ((wrap64 (a0 * 4)) + (wrap64 ((wrap64 ((wrap64 (Int.tdiv a0 7)) + 2)) * 2)))) + 1)) (wrap64 ((wrap64 ((wrap64 ((wrap64 (Int.tdiv a0 7)) + 2)) * 2)) - 2)))) * 2)))))) = some r := h
  clear h
  by_cases c2 : a0 = 1
  · rw [if_pos c2] at H
    have c2b0 : (a0 == 1) = true := beq_iff_eq.mpr c2
    have c2b1 : (a0 != 1) = false := bne_eq_false_iff_eq.mpr c2
    clear c2
    obtain rfl := Option.some.inj H
    go_enter Tryz.func48, Tryz.ntmps48
    go_wp2
    go_ret
    exact ⟨_, by first | rfl | (simp [errW_none, errW_some] <;> rfl) | (simp [*, errW_none, errW_some] <;> rfl), by first | exact Kd.R_nil _ _ _ _ _ | exact Kd.N_nil _ _ _ _ _ | exact Kd.V_nil _ _ _ _ _ | exact Kd.Q_nil _ _ _ _ _ | exact Kd.S_nil _ _ _ _ _, by repeat (first | (with_reducible first | exact HB.out | apply below_alloc | apply pw_below_drewN | apply below_drew1) | exact HB.out)⟩
  · rw [if_neg c2] at H
    have c2b0 : (a0 == 1) = false := beq_eq_false_iff_ne.mpr c2
    have c2b1 : (a0 != 1) = true := bne_iff_ne.mpr c2
    by_cases c3 : (wrap64 ((wrap64 ((wrap64 ((wrap64 (Int.tdiv a0 7)) + 2)) * 2)) - 2)) = 0
    · rw [if_pos c3] at H
      exact absurd H (by simp)
    · rw [if_neg c3] at H
      have c3b0 : ((wrap64 ((wrap64 ((wrap64 ((wrap64 (Int.tdiv a0 7)) + 2)) * 2)) - 2)) == 0) = false := beq_eq_false_iff_ne.mpr c3
      have c3b1 : ((wrap64 ((wrap64 ((wrap64 ((wrap64 (Int.tdiv a0 7)) + 2)) * 2)) - 2)) != 0) = true := bne_iff_ne.mpr c3
      have HC4 := Aside0.mk H
      clear H
      go_enter Tryz.func48, Tryz.ntmps48
      go_upto_if 24 with (fail)
      go_cut [4] (fun v4 wc => ∃ (kq : Nat) (x4_3 : Int), v4 = .int .i64 x4_3 ∧ Aside0 (spec_QRCenters.j0 kq a0 (wrap64 ((wrap64 (Int.tdiv a0 7)) + 2)) x4_3 = some r) ∧ Aside0 (kq ≤ k) ∧ Aside0 (Below w.heap.size w wc))
      case first =>
        have H := HC4.out
        clear HC4
        by_cases c5 : a0 = 32
        · rw [if_pos c5] at H
          have c5b0 : (a0 == 32) = true := beq_iff_eq.mpr c5
          have c5b1 : (a0 != 32) = false := bne_eq_false_iff_eq.mpr c5
          clear c5
          (first | rw [c5b0] | (simp only [i64_w, i32_w]; rw [c5b0]) | skip)
          have H' := Aside0.mk H
          clear H
          go_wp2
          go_meet
          case rel => exact ⟨_, (26), (by first | rfl | (simp; done) | (simp [*]; done)), H', ⟨by first | omega | exact Nat.le_refl _⟩, ⟨by repeat (first | (with_reducible first | exact HB.out | apply below_alloc | apply pw_below_drewN | apply below_drew1) | exact HB.out)⟩⟩
        · rw [if_neg c5] at H
          have c5b0 : (a0 == 32) = false := beq_eq_false_iff_ne.mpr c5
          have c5b1 : (a0 != 32) = true := bne_iff_ne.mpr c5
          (first | rw [c5b0] | (simp only [i64_w, i32_w]; rw [c5b0]) | skip)
          have H' := Aside0.mk H
          clear H
          go_wp2
          go_meet
          case rel => exact ⟨_, (wrap64 ((wrap64 (Int.tdiv (wrap64 ((wrap64 ((wrap64 (a0 * 4)) + (wrap64 ((wrap64 ((wrap64 (Int.tdiv a0 7)) + 2)) * 2)))) + 1)) (wrap64 ((wrap64 ((wrap64 ((wrap64 (Int.tdiv a0 7)) + 2)) * 2)) - 2)))) * 2)), (by first | rfl | (simp; done) | (simp [*]; done)), H', ⟨by first | omega | exact Nat.le_refl _⟩, ⟨by repeat (first | (with_reducible first | exact HB.out | apply below_alloc | apply pw_below_drewN | apply below_drew1) | exact HB.out)⟩⟩
      case rest =>
        clear HC4
        try clear c2
        try clear c2b0
        try clear c2b1
        try clear p2
        try clear c3
        try clear c3b0
        try clear c3b1
        try clear c4
        try clear c5
        try clear c5b0
        try clear c5b1
        obtain ⟨kq, x4_3, rfl, HA, HJ3, HB⟩ := hcut
        cases kq with
        | zero => exact absurd HA.out (by simp [spec_QRCenters.j0])
        | succ kj3 =>
          have H := HA.out
          clear HA
          simp only [spec_QRCenters.j0] at H
          obtain ⟨ji6, hji6⟩ : ∃ j_ : Int, (wrap64 ((wrap64 (Int.tdiv a0 7)) + 2)) = j_ := ⟨_, rfl⟩
          replace H : (if 0 ≤ (ji6) then (if ((ji6) : Int).toNat ≤ 35184372088832 then ((some (List.replicate ((ji6) : Int).toNat 0 : List Int)).bind fun y295 => (if 0 < (y295.length : Int) then (spec_QRCenters.l0 kj3 a0 (ji6) x4_3 (y295.set (0 : Int).toNat 6) 1) else (none))) else (none)) else (none)) = some r := by first | (rw [hji6] at H; exact H) | (simp only [hji6] at H ⊢; exact H)
          (try rw [hji6] at c3b0)
          (try rw [hji6] at c3b1)
          have hji6w : (IntKind.i64.wrap ((wrap64 (Int.tdiv a0 7)) + 2)) = ji6 := (i64_w _).trans hji6
          by_cases c7 : 0 ≤ (ji6)
          · rw [if_pos c7] at H
            have c7b0 := eq_true c7
            have c7b1 : decide (0 ≤ (ji6)) = true := decide_eq_true c7
            clear c7
            by_cases c8 : ((ji6) : Int).toNat ≤ 35184372088832
            · rw [if_pos c8] at H
              have c8b0 := eq_true c8
              have c8b1 : decide (((ji6) : Int).toNat ≤ 35184372088832) = true := decide_eq_true c8
              clear c8
              obtain ⟨y295, hy295⟩ : ∃ y_ : List Int, y_ = (List.replicate ((ji6) : Int).toNat 0) := ⟨_, rfl⟩
              replace H : (if 0 < (y295.length : Int) then (spec_QRCenters.l0 kj3 a0 (ji6) x4_3 (y295.set (0 : Int).toNat 6) 1) else (none)) = some r := by first | (rw [hy295]; with_reducible exact H) | (have H2_ := (Option.bind_some _ _).symm.trans H; rw [hy295]; with_reducible exact H2_) | (have H2_ := (Option.bind_some _ _).symm.trans H; with_reducible exact H2_) | with_reducible exact H | (rw [hy295]; exact H) | exact H
              have Ny295 := Aside0.mk hy295
              clear hy295
              by_cases c9 : 0 < (y295.length : Int)
              · rw [if_pos c9] at H
                have c9b0 : decide (0 < (y295.length : Int)) = true := decide_eq_true c9
                have c9b1 : decide (0 < y295.length) = true := decide_eq_true (by omega)
                clear c9
                obtain ⟨y298, hy298⟩ : ∃ y_ : List Int, y_ = (y295.set (0 : Int).toNat 6) := ⟨_, rfl⟩
                replace H : (spec_QRCenters.l0 kj3 a0 (ji6) x4_3 y298 1) = some r := by first | (rw [hy298]; with_reducible exact H) | (have H2_ := (Option.bind_some _ _).symm.trans H; rw [hy298]; with_reducible exact H2_) | (have H2_ := (Option.bind_some _ _).symm.trans H; with_reducible exact H2_) | with_reducible exact H | (rw [hy298]; exact H) | exact H
                have Ny298 := Aside0.mk hy298
                clear hy298
                have H' := Aside0.mk H
                clear H
                try rw [hji6]
                go_wp2_with (first | ((with_reducible refine gate_dst (N := 26) rfl ?_); refine Kd.R_make (Kd.int .i64) _ 3 rfl (N := 26) rfl 93 _ _ rfl (ji6) rfl rfl Tryz.underlying93 (.int .i64 0) 8 info3 rfl (by decide) (by omega) 0 (ok := fun _ => True) (okp := fun _ => True) rfl (fun _ hk => hk) trivial (of_decide_eq_true (by first | (with_reducible assumption) | assumption)) (Nat.le_trans (Nat.mul_le_mul_right _ (of_decide_eq_true (by first | (with_reducible assumption) | assumption) : (ji6).toNat ≤ 35184372088832)) (by omega)) (Below.refl _ _) (Nat.le_refl _) ?_; intro v296 w11 ho12 hb hg_ hnew_; clear hg_ hnew_; (first | rw [← Ny295.out] at ho12 | (simp only [Int.reduceToNat] at ho12; rw [← Ny295.out] at ho12)); have n0_ := Aside0.mk (Kd.R_lower ho12 (below_size (by repeat (first | (with_reducible first | exact HB.out | apply below_alloc | apply pw_below_drewN | apply below_drew1) | exact HB.out)))); have n1_ := Aside0.mk (below_step (by repeat (first | (with_reducible first | exact HB.out | apply below_alloc | apply pw_below_drewN | apply below_drew1) | exact HB.out)) hb); clear HB; have HO297 := n0_; have HB := n1_; clear n0_ n1_; clear hb ho12; have p10 : 0 ≤ (0 : Int) := (by omega); have q10 : (0 : Int) < ((y295.length : Int) : Int) := of_decide_eq_true (by first | (with_reducible assumption) | assumption); have qi10 : (0 < y295.length) = True := eq_true (by omega); obtain ⟨go10, co10, eo10, gb10, gl10, cl10, HG10⟩ := Kd.R_form HO297.out (by omega); (first | cases eo10 | (injection eo10 with ea_ en_ ec_; (first | subst ea_ | (injection ea_ with ea_; subst ea_)); subst ec_; clear en_)); have GB10 := Aside0.mk gb10; have GG10 := Aside0.mk HG10; clear gb10 gl10 HG10; obtain ⟨hx10_0, hf10_0⟩ := Kd.R_celln 0 HO297.out (0 : Int) p10 q10; (try rw [show ((0 : Int)).toNat = 0 from rfl] at hx10_0); (try simp only [Nat.reduceMul, Nat.zero_mul, Nat.zero_add, Nat.reduceAdd] at hx10_0); (try rw [show ((0 : Int)).toNat = 0 from rfl] at hf10_0); (try simp only [Nat.reduceMul, Nat.zero_mul, Nat.zero_add, Nat.reduceAdd] at hf10_0); replace p10 := eq_true p10; replace q10 := eq_true q10; obtain ⟨hy13_, hz13_⟩ := Kd.R_celln 0 HO297.out (0 : Int) (by omega) (of_decide_eq_true (by first | (with_reducible assumption) | assumption)); (try simp only [Int.reduceToNat, Int.toNat_zero, Int.toNat_ofNat, Nat.reduceMul, Nat.zero_mul, Nat.zero_add] at hy13_ hz13_); (try rw [show ((0 : Int)).toNat = 0 from rfl] at hy13_); (try rw [show ((0 : Int)).toNat = 0 from rfl] at hz13_); have HP13 := Kd.R_putg HO297.out (0 : Int) 6) | ((with_reducible refine gate_store (t := 3) (p := 28) rfl ?_); refine store_event (t := 3) (p := 28) (v := ?vo_w14) (w1 := (w11.setCell ⟨go10, (0 : Int).toNat, none⟩ (.int .i64 6))) ?hg ?ho ?hn ?hr ?_; (case ho => rfl); (case hg => rfl); (case hn => rfl); (case hr => first | (go_simp; done) | (go_simp; rfl) | (obtain ⟨Av_, cv_, ev_⟩ := Kd.R_slice HO297.out; subst ev_; first | (go_simp; done) | (go_simp; rfl))); intro w14 hw; have hg : w11.grownBy w14 (some go10) := (by rw [hw]; exact HP13.2); have hp_ : Kd.R (Kd.int .i64) 3 w14 w.heap.size (fun _ => True) (.slice (some ⟨go10, 0, none⟩) y295.length co10) y298 := (by rw [hw, Ny298.out]; exact HP13.1); clear HP13; have n0_ := Aside0.mk (hp_); have n1_ := Aside0.mk ((by rw [hw]; exact below_set (HB.out) GB10.out : Below w.heap.size w w14)); clear HO297; clear HB; have HO297 := n0_; have HB := n1_; clear n0_ n1_; clear hg hw hp_))
                go_loopg [6] kj3 (fun kq v6 w' => ∃ (x5_2 : List Int) (x6_2 : Int), v6 = .int .i64 x6_2 ∧ Aside0 (spec_QRCenters.l0 kq a0 (ji6) x4_3 x5_2 x6_2 = some r) ∧ Aside0 (kq ≤ kj3) ∧ Aside0 (Kd.R (Kd.int .i64) 3 w' w.heap.size (fun _ => True) (.slice (some ⟨go10, 0, none⟩) y295.length co10) x5_2) ∧ Aside0 (Below w.heap.size w w'))
                case atStart => exact ⟨(y298), (1), (by first | rfl | (simp; done) | (simp [*]; done)), H', ⟨Nat.le_refl _⟩, ⟨by (with_reducible repeat (first | apply Kd.R_alloc | apply Kd.R_drewN | apply Kd.R_drew)); exact HO297.out⟩, ⟨by repeat (first | (with_reducible first | exact HB.out | apply below_alloc | apply pw_below_drewN | apply below_drew1) | exact HB.out)⟩⟩
                case round =>
                  clear H'
                  try clear p1
                  try clear q1
                  try clear hx1
                  try clear qi1
                  try clear hf1
                  try clear c2
                  try clear c2b0
                  try clear c2b1
                  try clear p2
                  try clear c3
                  try clear c3b0
                  try clear c3b1
                  try clear c4
                  try clear c5
                  try clear c5b0
                  try clear c5b1
                  try clear p6
                  try clear c7
                  try clear c7b0
                  try clear c7b1
                  try clear c8
                  try clear c8b0
                  try clear c8b1
                  try clear c9
                  try clear c9b0
                  try clear c9b1
                  try clear p10
                  try clear q10
                  try clear hx10
                  try clear qi10
                  try clear hf10
                  try clear hx10_0
                  try clear p10
                  try clear p2
                  try clear q10
                  obtain ⟨x5_2, x6_2, rfl, HA, HK2, HO_5, HB⟩ := hrel
                  have hl5_2 := (Kd.R_reads' HO_5.out).1
                  rw [hl5_2] at HO_5
                  (try simp only [hl5_2])
                  cases gk with
                  | zero => exact absurd HA.out (by simp [spec_QRCenters.l0])
                  | succ k2 =>
                    have H := HA.out
                    clear HA
                    simp only [spec_QRCenters.l0] at H
                    by_cases c15 : x6_2 < (ji6)
                    · rw [if_pos c15] at H
                      have c15b0 : decide (x6_2 < (ji6)) = true := decide_eq_true c15
                      clear c15
                      replace H := Option.bind_eq_some_iff.mp H
                      obtain ⟨t299, A160, H⟩ := H
                      replace H : (if 0 ≤ x6_2 then (if x6_2 < (x5_2.length : Int) then (spec_QRCenters.l0 k2 a0 (ji6) x4_3 (x5_2.set (x6_2 : Int).toNat (wrap64 ((wrap64 (t299 - 7)) - (wrap64 (x4_3 * (wrap64 ((wrap64 ((ji6) - 1)) - x6_2))))))) (wrap64 (x6_2 + 1))) else (none)) else (none)) = some r := H
                      have A16 := Aside0.mk A160
                      clear A160
                      by_cases c17 : 0 ≤ x6_2
                      · rw [if_pos c17] at H
                        have c17b0 : decide (0 ≤ x6_2) = true := decide_eq_true c17
                        clear c17
                        by_cases c18 : x6_2 < (x5_2.length : Int)
                        · rw [if_pos c18] at H
                          have c18b0 : decide (x6_2 < (x5_2.length : Int)) = true := decide_eq_true c18
                          clear c18
                          obtain ⟨y300, hy300⟩ : ∃ y_ : List Int, y_ = (x5_2.set (x6_2 : Int).toNat (wrap64 ((wrap64 (t299 - 7)) - (wrap64 (x4_3 * (wrap64 ((wrap64 ((ji6) - 1)) - x6_2))))))) := ⟨_, rfl⟩
                          replace H : (spec_QRCenters.l0 k2 a0 (ji6) x4_3 y300 (wrap64 (x6_2 + 1))) = some r := by first | (rw [hy300]; with_reducible exact H) | (have H2_ := (Option.bind_some _ _).symm.trans H; rw [hy300]; with_reducible exact H2_) | (have H2_ := (Option.bind_some _ _).symm.trans H; with_reducible exact H2_) | with_reducible exact H | (rw [hy300]; exact H) | exact H
                          have Ny300 := Aside0.mk hy300
                          clear hy300
                          have H' := Aside0.mk H
                          clear H
                          go_wp2_with (first | ((with_reducible refine gate_callee (f := 46) rfl ?_); refine goesL_ (some 37) rfl rfl Tryz.func46 (by kernel_rfl) rfl #[.int .i64 a0] rfl (by (try simp only [List.map_toArray, List.map_cons, List.map_nil]); first | done | rfl | (simp only [List.length_drop, List.length_take]; rfl)) ?_; (with_reducible refine (spec_QRDimension.calls a0 t299 _ A16.out).mono ?_); rintro e w' ⟨rfl, ⟨nd, rfl⟩⟩; refine ⟨_, rfl, ?_⟩; (try (rw [drewN_self wr]; generalize hq_ : World.drewN wr _ = wr; have n0_ : Aside0 (Kd.R (Kd.int .i64) 3 wr w.heap.size (fun _ => True) (.slice (some ⟨go10, 0, none⟩) x5_2.length co10) x5_2) := ⟨by rw [← hq_]; exact (by (with_reducible repeat (first | apply Kd.R_alloc | apply Kd.R_drewN | apply Kd.R_drew)); exact HO_5.out)⟩; have n1_ : Aside0 (Below w.heap.size w wr) := ⟨by rw [← hq_]; exact (by repeat (first | (with_reducible first | exact HB.out | apply below_alloc | apply pw_below_drewN | apply below_drew1) | exact HB.out))⟩; clear HO_5 HB hq_; have HO_5 := n0_; have HB := n1_; clear n0_ n1_)); have p19 : 0 ≤ (x6_2 : Int) := of_decide_eq_true (by first | (with_reducible assumption) | assumption); have q19 : (x6_2 : Int) < ((x5_2.length : Int) : Int) := of_decide_eq_true (by first | (with_reducible assumption) | assumption); obtain ⟨hx19_0, hf19_0⟩ := Kd.R_celln 0 HO_5.out (x6_2 : Int) p19 q19; replace p19 := eq_true p19; replace q19 := eq_true q19; obtain ⟨hy20_, hz20_⟩ := Kd.R_celln 0 HO_5.out (x6_2 : Int) (of_decide_eq_true (by first | (with_reducible assumption) | assumption)) (of_decide_eq_true (by first | (with_reducible assumption) | assumption)); have HP20 := Kd.R_putg HO_5.out (x6_2 : Int) (wrap64 ((wrap64 (t299 - 7)) - (wrap64 (x4_3 * (wrap64 ((wrap64 ((ji6) - 1)) - x6_2))))))) | ((with_reducible refine gate_store (t := 3) (p := 46) rfl ?_); refine store_event (t := 3) (p := 46) (v := ?vo_w21) (w1 := (wr.setCell ⟨go10, (x6_2 : Int).toNat, none⟩ (.int .i64 (wrap64 ((wrap64 (t299 - 7)) - (wrap64 (x4_3 * (wrap64 ((wrap64 ((ji6) - 1)) - x6_2))))))))) ?hg ?ho ?hn ?hr ?_; (case ho => rfl); (case hg => rfl); (case hn => rfl); (case hr => first | (go_simp; done) | (go_simp; rfl)); intro w21 hw; have hg : wr.grownBy w21 (some go10) := (by rw [hw]; exact HP20.2); have hp_ : Kd.R (Kd.int .i64) 3 w21 w.heap.size (fun _ => True) (.slice (some ⟨go10, 0, none⟩) x5_2.length co10) y300 := (by rw [hw, Ny300.out]; exact HP20.1); clear HP20; have n0_ := Aside0.mk (hp_); have n1_ := Aside0.mk ((by rw [hw]; exact below_set (HB.out) GB10.out : Below w.heap.size w w21)); clear HO_5; clear HB; have HO_5 := n0_; have HB := n1_; clear n0_ n1_; clear hg hw hp_))
                          (try simp only [← hl5_2])
                          go_roundg k2
                          case measure => have := HJ3.out; have := HK2.out; omega
                          case rel => exact ⟨(y300), (wrap64 (x6_2 + 1)), (by first | rfl | (simp; done) | (simp [*]; done)), H', ⟨by have := HJ3.out; have := HK2.out; omega⟩, ⟨by (try simp only [hl5_2]); (with_reducible repeat (first | apply Kd.R_alloc | apply Kd.R_drewN | apply Kd.R_drew)); exact HO_5.out⟩, ⟨by repeat (first | (with_reducible first | exact HB.out | apply below_alloc | apply pw_below_drewN | apply below_drew1) | exact HB.out)⟩⟩
                        · rw [if_neg c18] at H
                          exact absurd H (by simp)
                      · rw [if_neg c17] at H
                        exact absurd H (by simp)
                    · rw [if_neg c15] at H
                      have c15b0 : decide (x6_2 < (ji6)) = false := decide_eq_false c15
                      clear c15
                      obtain rfl := Option.some.inj H
                      go_wp2
                      go_ret
                      exact ⟨_, by first | rfl | (simp [errW_none, errW_some] <;> rfl) | (simp only [← hji6]; first | rfl | (simp [errW_none, errW_some] <;> rfl)) | (simp [*, errW_none, errW_some] <;> rfl), by (with_reducible repeat (first | apply Kd.R_alloc | apply Kd.R_drewN | apply Kd.R_drew)); exact HO_5.out, by repeat (first | (with_reducible first | exact HB.out | apply below_alloc | apply pw_below_drewN | apply below_drew1) | exact HB.out)⟩
              · rw [if_neg c9] at H
                exact absurd H (by simp)
            · rw [if_neg c8] at H
              exact absurd H (by simp)
          · rw [if_neg c7] at H
            exact absurd H (by simp)
end Go.Proofs.YtgccjgpdjkhpdaaGreat.F
