import Derived.Test.YthkddnmomjcdaaaGreatG
import Derived.Test.YthkddnmomjcdaaaGreatV
import Derived.Test.YthkddnmomjcdaaaGreatF142
import Derived.Test.YthkddnmomjcdaaaGreatF144
import Derived.Test.YthkddnmomjcdaaaGreatF146
namespace Go.Proofs.YthkddnmomjcdaaaGreat.B
open Go.RowKit Go.Proofs.YthkddnmomjcdaaaGreatW.PrintWords Go.Proofs.YthkddnmomjcdaaaGreatW.PrintLast Go.Proofs.YthkddnmomjcdaaaGreatW.PrintMore
set_option linter.unusedVariables false
set_option linter.unusedSimpArgs false

/-! ### Where a byte stands in a string -/
theorem zz_run (s : ByteArray) (b : UInt8) (hs : s.size ≤ 1000) (r : Int) (n : Nat) (hn : n ≤ s.size) (hf : ∀ i (h : i < n), s.data.toList.getD i 0 ≠ b) (hr : if n < s.size then s.data.toList.getD n 0 = b ∧ r = n else r = -1) :
    ∀ (d i : Nat), i + d = n → Ev (fun k => F.oned_zzIndex.l0 k s ⟨#[b]⟩ i) r := by
  have hx : ∀ i : Nat, i < s.size → ((s.extract i (i + 1)).toList = (⟨#[b]⟩ : ByteArray).toList ↔ s.data.toList.getD i 0 = b) := by
    intro i hi
    have hl : i < s.data.toList.length := by rw [data_length]; exact hi
    rw [ba_toList, ba_toList, Lib.extract_data, show i + 1 - i = 1 by omega, List.drop_eq_getElem_cons hl, List.getD_eq_getElem?_getD, List.getElem?_eq_getElem hl]
    simp
  have hone : ((⟨#[b]⟩ : ByteArray).size : Int) = 1 := rfl
  intro d
  induction d with
  | zero =>
    intro i hi
    obtain rfl : i = n := by omega
    refine Ev.step (f := fun _ => some r) (fun k => ?_) (Ev.now r)
    rw [F.oned_zzIndex.l0, hone, show wrap64 ((i : Int) + 1) = ((i + 1 : Nat) : Int) by unfold wrap64; omega]
    by_cases hlt : i < s.size
    · rw [if_pos hlt] at hr
      rw [if_pos (by omega), if_pos (by omega), if_pos (by omega), Int.toNat_natCast, Int.toNat_natCast, if_pos ((hx i hlt).2 hr.1), hr.2]
    · rw [if_neg hlt] at hr
      rw [if_neg (by omega), hr]
  | succ d ih =>
    intro i hi
    refine Ev.step (fun k => ?_) (ih (i + 1) (by omega))
    rw [F.oned_zzIndex.l0, hone, show wrap64 ((i : Int) + 1) = ((i + 1 : Nat) : Int) by unfold wrap64; omega, if_pos (by omega), if_pos (by omega), if_pos (by omega), Int.toNat_natCast, Int.toNat_natCast, if_neg (fun h => hf i (by omega) ((hx i (by omega)).1 h))]
theorem zzAt (w : World) (s : ByteArray) (b : UInt8) (hs : s.size ≤ 1000) (r : Int) (n : Nat) (hn : n ≤ s.size) (hf : ∀ i (h : i < n), s.data.toList.getD i 0 ≠ b) (hr : if n < s.size then s.data.toList.getD n 0 = b ∧ r = n else r = -1) :
    Calls Tryz.prog 142 #[.string s, .string ⟨#[b]⟩] w fun e w' => e = .returned (.int .i64 r) ∧ Below w.heap.size w w' := by
  obtain ⟨k, hk⟩ := (zz_run s b hs r n hn hf hr n 0 (by omega)).rounds
  refine (F.oned_zzIndex.calls k s ⟨#[b]⟩ r w hk).mono ?_
  rintro e w' ⟨rfl, h⟩
  exact ⟨rfl, h.below⟩

/-! ### Rows of numbers of one's own -/
theorem RI_of_blk {w : World} {g N : Nat} {xs : List Int} {k : IntKind} {e : TypeId} (h : Blk w g e (nums k xs).toArray) (hN : xs.length = N) (hm : N ≤ 1000000000) {base : Nat} (hb : base ≤ g) : Kd.R (Kd.int k) e w base (fun i => i = g) (.slice (some ⟨g, 0, none⟩) N N) xs := by
  refine Kd.R_of_own (enc := Value.int k) (h1 := fun _ => rfl) ⟨by simp [encs], .inr ⟨g, N, _, by rw [hN], hb, h, by omega, by unfold maxLen; omega, by simp [nums, hN], ?_⟩⟩ (fun i hk => ?_)
  · rw [Nat.mul_one, List.toList_toArray]
    exact List.take_of_length_le (by simp [nums])
  · simpa [Value.ownBlock] using hk.symm
theorem blkI_of_R {w : World} {g N base : Nat} {xs : List Int} {ok : Nat → Prop} {k : IntKind} {e : TypeId} (h : Kd.R (Kd.int k) e w base ok (.slice (some ⟨g, 0, none⟩) N N) xs) (h0 : 0 < N) : Blk w g e (nums k xs).toArray := by
  obtain ⟨h1, h2 | ⟨g', cap, cur, he, hb, hh, h3, h4, h5, h6⟩⟩ := Kd.own_of_R (enc := Value.int k) (h1 := fun _ => rfl) h
  · simp at h2
  · injection he with e1 e2 e3
    injection e1 with e1
    injection e1 with e1
    subst e1 e3
    have e : cur = (nums k xs).toArray := by
      apply Array.toList_inj.1
      rw [← e2, Nat.mul_one, List.take_of_length_le (by rw [Array.length_toList, h5]; omega)] at h6
      rw [h6]
      rfl
    rw [← e]
    exact hh

/-! ### The widths of a character of Code 39 -/
def w9at (a : Int) (i : Nat) : Int := if Go.bits .and .i64 a (shl .i64 1 (IntKind.u64.wrap (wrap64 (8 - (i : Int))))) = 0 then 1 else 2
def w9 (a : Int) : List Int := (List.range 9).map (w9at a)
theorem w9_length (a : Int) : (w9 a).length = 9 := by simp [w9]
theorem w9_pos (a : Int) : ∀ p ∈ w9 a, 0 ≤ p ∧ p ≤ 1000 := by
  intro p hp
  simp only [w9, List.mem_map] at hp
  obtain ⟨i, _, rfl⟩ := hp
  unfold w9at; split <;> omega
theorem toInts_run (a : Int) : ∀ (d i : Nat) (xs : List Int), i + d = 9 → xs.length = 9 → xs.take i = (w9 a).take i → Ev (fun k => F.oned_code39ToIntArray.l0 k a xs i) (w9 a) := by
  intro d
  induction d with
  | zero =>
    intro i xs hi hx ht
    obtain rfl : i = 9 := by omega
    have : xs = w9 a := by
      rw [List.take_of_length_le (by omega), List.take_of_length_le (by rw [w9_length]; omega)] at ht
      exact ht
    rw [← this]
    refine Ev.step (f := fun _ => some xs) (fun k => ?_) (Ev.now xs)
    rw [F.oned_code39ToIntArray.l0, if_neg (by omega)]
  | succ d ih =>
    intro i xs hi hx ht
    have hu : 0 ≤ IntKind.u64.wrap (wrap64 (8 - (i : Int))) := by
      simp only [IntKind.wrap_u64]
      omega
    have h2 := ih (i + 1) (xs.set i (w9at a i)) (by omega) (by simpa using hx) (by
      rw [List.take_succ_eq_append_getElem (by simp; omega), List.take_succ_eq_append_getElem (by rw [w9_length]; omega), List.take_set_of_le (Nat.le_refl _), ht]
      simp [w9])
    refine Ev.step (fun k => ?_) h2
    rw [F.oned_code39ToIntArray.l0, if_pos (by omega), if_pos hu, show wrap64 ((i : Int) + 1) = ((i + 1 : Nat) : Int) by unfold wrap64; omega, Int.toNat_natCast]
    unfold w9at
    split
    · rw [if_pos (by omega), if_pos (by omega)]
    · rw [if_pos (by omega), if_pos (by omega)]
theorem toInts (w : World) (g : Nat) (a : Int) (xs : List Int) (hb : Blk w g 3 (nums .i64 xs).toArray) (hx : xs.length = 9) :
    Calls Tryz.prog 144 #[.int .i64 a, .slice (some ⟨g, 0, none⟩) 9 9] w fun e w' => e = .returned (.tuple #[]) ∧ Blk w' g 3 (nums .i64 (w9 a)).toArray ∧ Upd w w' g := by
  obtain ⟨k, hk⟩ := (toInts_run a 9 0 xs (by omega) hx (by simp)).rounds
  have hbl : g ≤ w.heap.size := Nat.le_of_lt hb.lt
  have hr := RI_of_blk hb hx (by omega) (base := (cutAt w g).heap.size) (by rw [cut_size w g hbl]; omega)
  refine (F.oned_code39ToIntArray.calls k a (fun i => i = g) _ xs _ (cutAt w g) w (cut_below w g hbl) hr hk).mono ?_
  rintro e w' ⟨rfl, h1, h2, h3⟩
  exact ⟨rfl, blkI_of_R h1 (by omega), ⟨h2.os, h2.tape, h2.output, h3.1, fun i hi hn => h3.2 i hi hn⟩⟩

theorem mkInts (n : Nat) (h : n ≤ 1000000000) (w : World) : (Instr.makeSlice 40 (.int .i64 (n : Int)) (.int .i64 (n : Int))).run Tryz.prog w = .ok (.slice (some ⟨w.heap.size, 0, none⟩) n n) (w.alloc (.cells (nums .i64 (List.replicate n 0)).toArray 3)) := by
  obtain ⟨i, hi, hz, hs, hb⟩ := info_parts F.info3
  have := run_make_rowN (P := Tryz.prog) 40 3 i (.int .i64 0) Tryz.underlying40 hi hz .i64 .i64 n n (Nat.le_refl _) (by rw [hb]; omega) (by omega) w
  have e : madeCells (Value.int .i64 0).cells (n * 1) = (nums .i64 (List.replicate n 0)).toArray := by
    apply Array.toList_inj.1
    rw [Nat.mul_one]
    exact (toList_madeCells_one _ _).trans (by simp [nums])
  rw [this, hs, e]
def z9 : List Int := List.replicate 9 0
theorem make_9 (w : World) : (Instr.makeSlice 40 (.int .i64 9) (.int .i64 9)).run Tryz.prog w = .ok (.slice (some ⟨w.heap.size, 0, none⟩) 9 9) (w.alloc (.cells (nums .i64 z9).toArray 3)) := mkInts 9 (by omega) w
/-- A number of a table that is just made. -/
theorem tab_cell {w : World} {base : Nat} {ok : Nat → Prop} {v : Value} {xs : List Int} (h : Kd.R (Kd.int .i64) 3 w base ok v xs) (n : Nat) (hn : n < xs.length) : ∃ ad c, v = .slice (some ad) xs.length c ∧ xs.length ≤ c ∧ w.cell? (ad.add n) = some (.int .i64 (xs.getD n 0)) := by
  obtain ⟨A, c, rfl, hc, hC⟩ := Kd.R_reads h
  obtain ⟨ad, rfl, h1⟩ := Kd.at_int hC (n : Int) (by omega) (by omega)
  exact ⟨ad, c, rfl, hc, h1⟩
end Go.Proofs.YthkddnmomjcdaaaGreat.B
