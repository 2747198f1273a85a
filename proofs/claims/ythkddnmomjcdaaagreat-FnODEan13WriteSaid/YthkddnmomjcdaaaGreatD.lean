import Derived.Test.YthkddnmomjcdaaaGreatC
import Derived.Test.YthkddnmomjcdaaaGreatF97
namespace Go.Proofs.YthkddnmomjcdaaaGreat.B
open Go.RowKit Go.Proofs.YthkddnmomjcdaaaGreatW.PrintWords Go.Proofs.YthkddnmomjcdaaaGreatW.PrintLast Go.Proofs.YthkddnmomjcdaaaGreatW.PrintMore
set_option linter.unusedVariables false
set_option linter.unusedSimpArgs false

/-! ### The map of one entry, and what is asked of it -/
theorem chk_key (em : Bool) (W : World) (x : Value) : (Instr.checkKey em 10000 50 x).run Tryz.prog W = .ok () W := by
  rw [show (10000 : Nat) = 9999 + 1 from rfl, Instr.checkKey]
  simp [run_underlying Tryz.underlying50]
theorem getObj_map (W : World) (r : Nat) (es : Array MapEntry) (c : Nat) (h : W.heap[r]? = some (.map es c)) : (getObj r).run Tryz.prog W = .ok (.map es c) W := by simp [getObj, Sem.run, h]
theorem setObj_map (W : World) (r : Nat) (es : Array MapEntry) (c : Nat) (o : Obj) (h : W.heap[r]? = some (.map es c)) : (setObj r o).run Tryz.prog W = .ok () { W with heap := W.heap.setIfInBounds r o } := by simp [setObj, Sem.run, h]
theorem push_set (h : Array Obj) (x o : Obj) : (h.push x).setIfInBounds h.size o = h.push o := by
  apply Array.toList_inj.1
  simp
theorem run_ins (W : World) (v : Value) : (Instr.mapUpdate 51 (.map (some W.heap.size)) (.int .i64 5) v).run Tryz.prog (W.alloc (.map #[] 0)) = .ok () (W.alloc (.map #[⟨.int .i64 5, v, 0⟩] 1)) := by
  unfold Instr.mapUpdate
  have h : (W.alloc (.map #[] 0)).heap[W.heap.size]? = some (.map #[] 0) := heap_alloc_new W _
  simp only [Sem.run_bind, run_underlying Tryz.underlying51, Result.andThen_ok, getObj_map _ _ _ _ h, chk_key]
  simp only [Instr.findKey, Sem.run_bind, run_underlying Tryz.underlying50, Result.andThen_ok, Instr.findNow, Sem.run_pure]
  rw [setObj_map _ _ _ _ _ h]
  have e : (W.alloc (.map #[] 0)).heap.setIfInBounds W.heap.size (.map #[⟨.int .i64 5, v, 0⟩] 1) = W.heap.push (.map #[⟨.int .i64 5, v, 0⟩] 1) := push_set _ _ _
  exact congrArg (Result.ok ()) (congrArg (fun hp => ({ W with heap := hp } : World)) e)
theorem run_lk (W : World) (gm : Nat) (v : Value) (h : W.heap[gm]? = some (.map #[⟨.int .i64 5, v, 0⟩] 1)) : (Instr.lookup 51 (.map (some gm)) (.int .i64 5) true).run Tryz.prog W = .ok (.tuple #[v, .bool true]) W := by
  unfold Instr.lookup
  simp only [Sem.run_bind, run_underlying Tryz.underlying51, Result.andThen_ok, getObj_map _ _ _ _ h, Sem.run_pure, chk_key]
  simp [Instr.findKey, run_underlying Tryz.underlying50, Instr.findNow, Instr.sameNow]
theorem run_ta (v : Int) (W : World) : (Instr.typeAssert (.iface 3 (.int .i64 v)) 20 3 true).run Tryz.prog W = .ok (.tuple #[.int .i64 v, .bool true]) W := by kernel_rfl

theorem methE (g : Nat) (W : World) : Sem.run Tryz.prog (method 315 85 (.pointer (some ⟨g, 0, none⟩)) "Encode") W = .ok (94, .pointer (some ⟨g, 0, none⟩)) W := by kernel_rfl
theorem newOdw (w : World) (t : TypeId) (x : Value) :
    Calls Tryz.prog 70 #[.iface t x] w fun e w' => e = .returned (.pointer (some ⟨w.heap.size, 0, none⟩)) ∧ w' = w.alloc (.cells #[.iface t x, .int .i64 10] 106) := by
  go_enter Tryz.func70, Tryz.ntmps70
  go_wp2
  go_ret
  exact ⟨rfl, rfl⟩
theorem alloc_set (w : World) (t : TypeId) (cs : Array Value) (i : Nat) (v : Value) : (w.alloc (.cells cs t)).setCell ⟨w.heap.size, i, none⟩ v = w.alloc (.cells (cs.setIfInBounds i v) t) := by
  have e : ((w.alloc (.cells cs t)).setCell ⟨w.heap.size, i, none⟩ v).heap = w.heap.push (.cells (cs.setIfInBounds i v) t) := by
    apply Array.ext_getElem?
    intro k
    by_cases hk : k = w.heap.size
    · subst hk
      have h := blk_set (heap_alloc_new w (.cells cs t)) i v
      simpa using h
    · rw [Below.heap_setCell _ _ _ _ hk]
      by_cases hl : k < w.heap.size
      · rw [Below.heap_alloc _ _ _ hl, Array.getElem?_push]
        simp [hk]
      · have h1 : (w.alloc (.cells cs t)).heap[k]? = none := Array.getElem?_eq_none (by simp; omega)
        rw [h1]
        exact (Array.getElem?_eq_none (by simp; omega)).symm
  exact congrArg (fun hp => ({ w with heap := hp } : World)) e
theorem newUpc (w : World) (t : TypeId) (x : Value) :
    Calls Tryz.prog 71 #[.iface t x] w fun e w' => e = .returned (.pointer (some ⟨w.heap.size, 0, none⟩)) ∧ w' = w.alloc (.cells #[.iface t x, .int .i64 9] 106) := by
  go_enter Tryz.func71, Tryz.ntmps71
  go_wp2_with (go_at_call 70; refine (newOdw _ _ _).mono ?_; rintro e w' ⟨rfl, rfl⟩)
  go_ret
  exact ⟨rfl, by first | rfl | exact alloc_set _ _ _ _ _⟩
theorem newExc (w : World) (s : ByteArray) (v : Value) :
    Calls Tryz.prog 100 #[.string s, v] w fun e w' => e = .returned (.agg #[.string s, .nilIface]) ∧ Below w.heap.size w w' := by
  go_enter Tryz.func100, Tryz.ntmps100
  go_wp2
  exact bodyPost_ret (v := .agg #[.string s, .nilIface]) (by simp [results, Tryz.results100, go_sem]) rfl ⟨rfl, (Below.refl _ _).alloc (Nat.le_refl _) _⟩
theorem newWExc (w : World) (v : Value) :
    Calls Tryz.prog 96 #[v] w fun e w' => ∃ x, e = .returned (.iface 141 x) ∧ Below w.heap.size w w' := by
  go_enter Tryz.func96, Tryz.ntmps96
  go_wp2_with (go_at_call 100; refine (newExc _ _ _).mono ?_; rintro e w' ⟨rfl, hb⟩)
  go_ret
  exact ⟨_, rfl, hb⟩

theorem C_nums {w : World} {g : Nat} {t : TypeId} {k : IntKind} {xs : List Int} (h : Blk w g t (nums k xs).toArray) (hl : xs.length ≤ 9223372036854775807) : Kd.C (Kd.int k) w (some ⟨g, 0, none⟩) xs.length xs := by
  refine Kd.C_of_reads (enc := Value.int k) (d := (0 : Int)) (h1 := fun _ => rfl) ⟨rfl, hl, fun _ => ⟨_, rfl, fun j hj => ?_⟩⟩
  have := h.ucell (j : Int) (by omega) (by omega)
  rw [add_plain]
  simpa [rd] using this
theorem C_bools {w : World} {g : Nat} {t : TypeId} {xs : List Bool} (h : Blk w g t (bools xs).toArray) (hl : xs.length ≤ 9223372036854775807) : Kd.C Kd.bool w (some ⟨g, 0, none⟩) xs.length xs := by
  refine Kd.C_of_reads (enc := Value.bool) (d := false) (h1 := fun _ => rfl) ⟨rfl, hl, fun _ => ⟨_, rfl, fun j hj => ?_⟩⟩
  have := h.bcell (j : Int) (by omega) (by omega)
  rw [add_plain]
  simpa [rdOf] using this
theorem contains1 (w : World) (g : Nat) (n : Int) (h : Blk w g 49 (nums .i64 [n]).toArray) :
    Calls Tryz.prog 97 #[.slice (some ⟨g, 0, none⟩) 1 1, .int .i64 n] w fun e w' => e = .returned (.bool true) ∧ Below w.heap.size w w' := by
  refine (F.gozxing_BarcodeFormats_Contains.calls 3 (some ⟨g, 0, none⟩) 1 [n] n true w (C_nums h (by simp)) (by simp) ?_).mono ?_
  · have e : rd [n] 0 = n := rfl
    simp [F.gozxing_BarcodeFormats_Contains.f, F.gozxing_BarcodeFormats_Contains.l0, e]
  · rintro e w' ⟨rfl, h⟩
    exact ⟨rfl, h.below⟩
end Go.Proofs.YthkddnmomjcdaaaGreat.B
