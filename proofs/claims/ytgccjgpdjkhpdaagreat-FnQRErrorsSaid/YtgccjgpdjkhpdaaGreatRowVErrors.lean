/- The law FnQRErrors answers true, whatever its arguments are; they read afterwards as they read before. -/
import Derived.Test.YtgccjgpdjkhpdaaGreatRows
import Derived.WalkKit
import Derived.ProofKit
import Derived.OpenShut
import Derived.ShutString
import Derived.ChangeOld
import Derived.Below
import Derived.SizedLaws
import Derived.Test.YtgccjgpdjkhpdaaGreatVErrors42
namespace Go.Proofs.YtgccjgpdjkhpdaaGreat.RowFnQRErrors
open Go.ChangeShapes Go.WideShapes Go.ChangeAt Go.RowKit
open Go.ChangeMaps (open_string shut_string)
set_option linter.unusedVariables false
theorem own : ownKnob Tryz.prog.godebug = none := by kernel_rfl
theorem laidOut : laidOutB Tryz.prog = true := by kernel_rfl
set_option maxRecDepth 100000 in
theorem lifted (os : Os) (started : os.Started) (H : Type) (enc : TypeId × Value → H) :
    ReturnsInHanded {} Tryz.checked os 8 .any (Rows.fnQRErrorsSpec.pre6 enc Tryz.prog Tryz.f8 Rows.fnQRErrorsRow.domain false) (Rows.fnQRErrorsSpec.post enc Tryz.prog Tryz.f8 false true false false) := by
  refine returnsInHanded_of_change_sized (C := Tryz.checked) own started (by kernel_rfl) Tryz.func8
    (ChangeSpec.witness6 (enc := enc) (C := Tryz.checked) false ⟨#[], #[.slice none 0 0, .int .u8 0, .int .u8 0, .int .u8 0, .slice none 0 0, .agg #[.int .u8 0, .int .u8 0, .int .u8 0, .int .u8 0, .int .u8 0, .int .u8 0, .int .u8 0, .int .u8 0, .int .u8 0, .int .u8 0, .int .u8 0, .int .u8 0]], []⟩ 8 (by kernel_rfl) (by kernel_rfl) (by kernel_rfl) (by kernel_rfl)) ?_
  intro W base args ds gs before hval0 hW hcnd hsz0 _;have hsz : (DataW.weightsEach Tryz.prog (Tryz.f8.params.toList ++ Rows.fnQRErrorsSpec.plain.varTypes Tryz.prog) (ds ++ gs)).all (· ≤ reachBytes) = true := hsz0;have hval : ∀ (j : Nat) t v, Tryz.f8.params[j]? = some t → args[j]? = some v → Value.okWide Tryz.prog W .any base t v := hval0;have hW' := hW;obtain ⟨p, q, hA0, hV, rfl, hfz, hnd⟩ := hW;have hA : DataW.TrodAll enc Tryz.prog W 0 (fun _ => true) true Tryz.f8.params.toList args.toList ds p := hA0;rw [Tryz.params8] at hA hval hsz;obtain ⟨v0, vs0, d0, ds0, p0, q0, hargs, rfl, rfl, h0, r0⟩ := trodAll_cons hA;obtain ⟨v1, vs1, d1, ds1, p1, q1, rfl, rfl, rfl, h1, r1⟩ := trodAll_cons r0;obtain ⟨v2, vs2, d2, ds2, p2, q2, rfl, rfl, rfl, h2, r2⟩ := trodAll_cons r1;obtain ⟨v3, vs3, d3, ds3, p3, q3, rfl, rfl, rfl, h3, r3⟩ := trodAll_cons r2;obtain ⟨v4, vs4, d4, ds4, p4, q4, rfl, rfl, rfl, h4, r4⟩ := trodAll_cons r3;obtain ⟨v5, vs5, d5, ds5, p5, q5, rfl, rfl, rfl, h5, r5⟩ := trodAll_cons r4;obtain ⟨rfl, rfl, rfl⟩ := trodAll_nil r5;obtain rfl : args = #[v0, v1, v2, v3, v4, v5] := by cases args; simp_all
  obtain ⟨rfl, rfl⟩ := trodVars_none hV;obtain ⟨a0, len0, cap0, rfl⟩ := okWide_slice Tryz.underlying38 (hval 0 38 v0 rfl rfl);have k0 := h0;have lt0 : ∀ x ∈ p0, x.block < W.heap.size := by obtain ⟨m, hm⟩ := k0; exact DataW.trod_lt m _ _ _ hm
  obtain ⟨z0, rfl, w0, y0, i0⟩ := B.GD Tryz.underlying38 Tryz.underlying98 (by kernel_rfl) rfl rfl rfl rfl Tryz.underlying3 Tryz.underlying26 Tryz.underlying5 (by kernel_rfl) (by kernel_rfl) (by kernel_rfl) h0;obtain ⟨b1, rfl, rfl, rfl, w1⟩ := open_int Tryz.underlying5 (hval 1 5 v1 rfl rfl) h1;obtain ⟨a1, rfl, u1⟩ : ∃ n : Nat, b1 = (n : Int) ∧ n < 256 := by have := B.nJ w1; exact ⟨b1.toNat, by omega, by omega⟩
  obtain ⟨b2, rfl, rfl, rfl, w2⟩ := open_int Tryz.underlying5 (hval 2 5 v2 rfl rfl) h2;obtain ⟨a2, rfl, u2⟩ : ∃ n : Nat, b2 = (n : Int) ∧ n < 256 := by have := B.nJ w2; exact ⟨b2.toNat, by omega, by omega⟩
  obtain ⟨b3, rfl, rfl, rfl, w3⟩ := open_int Tryz.underlying5 (hval 3 5 v3 rfl rfl) h3;obtain ⟨a3, rfl, u3⟩ : ∃ n : Nat, b3 = (n : Int) ∧ n < 256 := by have := B.nJ w3; exact ⟨b3.toNat, by omega, by omega⟩
  obtain ⟨a4, len4, cap4, rfl⟩ := okWide_slice Tryz.underlying62 (hval 4 62 v4 rfl rfl);have k4 := h4;have lt4 : ∀ x ∈ p4, x.block < W.heap.size := by obtain ⟨m, hm⟩ := k4; exact DataW.trod_lt m _ _ _ hm
  obtain ⟨y4, w4⟩ := B.Lm Tryz.underlying62 Tryz.underlying127 (by kernel_rfl) rfl rfl Tryz.underlying3 Tryz.underlying5 (by kernel_rfl) (by kernel_rfl) h4;have k5 := h5;have lt5 : ∀ x ∈ p5, x.block < W.heap.size := by obtain ⟨m, hm⟩ := k5; exact DataW.trod_lt m _ _ _ hm
  obtain ⟨aa, rfl, u5⟩ := B.Ln Tryz.underlying64 Tryz.underlying63 Tryz.underlying5 (by kernel_rfl) (by kernel_rfl) (by kernel_rfl) (hval 5 64 v5 rfl rfl) h5;clear hA0 hval0 hsz0 hsz;refine (B.Ll W a0 a4 cap0 len4 cap4 z0 a1 a2 a3 aa y0 w0 i0 u1 u2 u3 y4 w4 u5).mono fun e W' ⟨he, bel⟩ => ?_
  subst he;exact ⟨_, rfl, _, _, _, [], _, [], hW', trodAll_mk1 (shut_bool Tryz.underlying4 _), (trodAll_cons_mk (Below.trod laidOut (by kernel_rfl) (of_decide_eq_true (by kernel_rfl)) k0 bel lt0) (trodAll_cons_mk (shut_int Tryz.underlying5 w1) (trodAll_cons_mk (shut_int Tryz.underlying5 w2) (trodAll_cons_mk (shut_int Tryz.underlying5 w3) (trodAll_cons_mk (Below.trod laidOut (by kernel_rfl) (of_decide_eq_true (by kernel_rfl)) k4 bel lt4) (trodAll_cons_mk (Below.trod laidOut (by kernel_rfl) (of_decide_eq_true (by kernel_rfl)) k5 bel lt5) trodAll_mk0)))))), rfl, bel.frame _, fun h => by cases h⟩
theorem proved : Rows.FnQRErrorsSaid :=
  OpenClaim.holds_of_wide 8 Tryz.f8 rfl rfl rfl rfl rfl rfl rfl ⟨rfl, rfl, rfl, rfl, rfl⟩ rfl rfl rfl rfl rfl (by kernel_rfl) Tryz.func8 (by kernel_rfl)
    (of_decide_eq_true (by kernel_rfl)) (by unfold Func.isWrapper; first | (rw [if_pos (by decide +kernel)]; kernel_rfl) | (rw [if_neg (by decide +kernel)]; exact ⟨rfl, rfl⟩))
    (fun os started H enc _ => lifted os started H enc)
end Go.Proofs.YtgccjgpdjkhpdaaGreat.RowFnQRErrors
namespace Go.Proofs.YtgccjgpdjkhpdaaGreat
/-- The law's statement. -/
theorem fnQRErrors_holds : Rows.FnQRErrorsSaid := RowFnQRErrors.proved
#print axioms fnQRErrors_holds
end Go.Proofs.YtgccjgpdjkhpdaaGreat
