import Derived.Test.YthkddnmomjcdaaaGreatG
import Derived.Test.YthkddnmomjcdaaaGreatV
import Derived.Test.YthkddnmomjcdaaaGreatF134
import Derived.Test.YthkddnmomjcdaaaGreatF135
import Derived.Test.YthkddnmomjcdaaaGreatF136
import Derived.Test.YthkddnmomjcdaaaGreatF137
import Derived.Test.YthkddnmomjcdaaaGreatF138
import Derived.Test.YthkddnmomjcdaaaGreatF139
namespace Go.Proofs.YthkddnmomjcdaaaGreat.B
open Go.RowKit Go.Proofs.YthkddnmomjcdaaaGreatW.PrintWords Go.Proofs.YthkddnmomjcdaaaGreatW.PrintLast Go.Proofs.YthkddnmomjcdaaaGreatW.PrintMore
set_option linter.unusedVariables false
set_option linter.unusedSimpArgs false

/-! ### Codabar's encoder -/
def sgB : ByteArray := ⟨#[48, 49, 50, 51, 52, 53, 54, 55, 56, 57, 45, 36, 58, 47, 46, 43, 65, 66, 67, 68]⟩
def encB : List Int := [3, 6, 9, 96, 18, 66, 33, 36, 48, 72, 12, 24, 69, 81, 84, 21, 26, 41, 11, 14]
def w7at (a : Int) (i : Nat) : Int := if a.toNat.testBit (6 - i) then 2 else 1
def w7 (a : Int) : List Int := (List.range 7).map (w7at a)
def chrB (n : Nat) : List Bool := bars true (w7 (encB.getD n 0))
def sB (n : Nat) : Int := ((sgB.data.toList.getD n 0).toNat : Int)
def lenB (n : Nat) : Nat := if n < 12 then 9 else 10
theorem chrB_length (n : Nat) (h : n < 20) : (chrB n).length = lenB n := by
  have : ∀ n : Fin 20, (chrB n).length = lenB n := by decide +kernel
  exact this ⟨n, h⟩
def preB (ns : List Nat) : List Bool := ns.flatMap fun n => chrB n ++ [false]
def sumB (ns : List Nat) : Nat := (ns.map lenB).sum
theorem preB_length (ns : List Nat) (h : ∀ n ∈ ns, n < 20) : (preB ns).length = sumB ns + ns.length := by
  induction ns with
  | nil => rfl
  | cons n r ih =>
    have := ih (fun d hd => h d (by simp [hd]))
    unfold preB sumB at this ⊢
    rw [List.flatMap_cons, List.length_append, List.length_append, this, chrB_length n (h n (by simp))]
    simp
    omega
def codeB (ns : List Nat) : List Bool := preB (ns.take (ns.length - 1)) ++ chrB (ns.getD (ns.length - 1) 0)
/-- A text of Codabar, with letters at both ends. -/
structure IsBar (t : ByteArray) (ns : List Nat) (n : Nat) : Prop where
  text : t.data.toList = ns.map (fun k => sgB.data.toList.getD k 0)
  len : ns.length = n
  two : 2 ≤ n
  inner : ∀ i, 0 < i → i < n - 1 → ns.getD i 0 < 16
  first : 16 ≤ ns.getD 0 0 ∧ ns.getD 0 0 < 20
  last : 16 ≤ ns.getD (n - 1) 0 ∧ ns.getD (n - 1) 0 < 20
theorem IsBar.lt {t : ByteArray} {ns : List Nat} {n : Nat} (h : IsBar t ns n) (i : Nat) (hi : i < n) : ns.getD i 0 < 20 := by
  by_cases h0 : i = 0
  · subst h0; exact h.first.2
  · by_cases h1 : i = n - 1
    · subst h1; exact h.last.2
    · have := h.inner i (by omega) (by omega); omega
theorem IsBar.all {t : ByteArray} {ns : List Nat} {n : Nat} (h : IsBar t ns n) : ∀ k ∈ ns, k < 20 := by
  intro k hk
  obtain ⟨i, hi, rfl⟩ := List.getElem_of_mem hk
  have := h.lt i (by rw [← h.len]; exact hi)
  rwa [List.getD_eq_getElem?_getD, List.getElem?_eq_getElem hi] at this
theorem IsBar.get {t : ByteArray} {ns : List Nat} {n : Nat} (h : IsBar t ns n) (i : Nat) (hi : i < t.size) : ((t[i]'hi).toNat : Int) = sB (ns.getD i 0) ∧ i < ns.length := by
  have hl : t.data.toList.length = ns.length := by rw [h.text, List.length_map]
  have hd : i < ns.length := by rw [← hl, data_length]; exact hi
  refine ⟨?_, hd⟩
  have e : t[i]'hi = t.data.toList[i]'(by rw [data_length]; exact hi) := rfl
  rw [e, List.getD_eq_getElem?_getD, List.getElem?_eq_getElem hd]
  have ht := h.text
  simp only [ht, List.getElem_map]
  rfl

/-- What is known of the byte of an inner sign. -/
theorem sB_inner (k : Nat) (h : k < 16) : (48 ≤ sB k ∧ sB k ≤ 57 ∧ lenB k = 9) ∨ (sB k = 45 ∧ lenB k = 9) ∨ (sB k = 36 ∧ lenB k = 9) ∨ (lenB k = 10 ∧ (sB k = 58 ∨ sB k = 47 ∨ sB k = 46 ∨ sB k = 43)) := by
  have : ∀ k : Fin 16, (48 ≤ sB k ∧ sB k ≤ 57 ∧ lenB k = 9) ∨ (sB k = 45 ∧ lenB k = 9) ∨ (sB k = 36 ∧ lenB k = 9) ∨ (lenB k = 10 ∧ (sB k = 58 ∨ sB k = 47 ∨ sB k = 46 ∨ sB k = 43)) := by decide +kernel
  exact this ⟨k, h⟩
theorem sB_end (k : Nat) (h1 : 16 ≤ k) (h : k < 20) : sB k = 65 ∨ sB k = 66 ∨ sB k = 67 ∨ sB k = 68 := by
  have : ∀ k : Fin 20, 16 ≤ k.val → sB k = 65 ∨ sB k = 66 ∨ sB k = 67 ∨ sB k = 68 := by decide +kernel
  exact this ⟨k, h⟩ h1
theorem sB_not (k : Nat) (h : k < 20) : (sB k == 84) = false ∧ (sB k == 78) = false ∧ (sB k == 42) = false ∧ (sB k == 69) = false := by
  have : ∀ k : Fin 20, (sB k == 84) = false ∧ (sB k == 78) = false ∧ (sB k == 42) = false ∧ (sB k == 69) = false := by decide +kernel
  exact this ⟨k, h⟩
theorem sB_lt (k : Nat) (h : k < 20) : 36 ≤ sB k ∧ sB k ≤ 68 := by
  have : ∀ k : Fin 20, 36 ≤ sB k ∧ sB k ≤ 68 := by decide +kernel
  exact this ⟨k, h⟩
theorem sB_inj (i k : Nat) (hi : i < 20) (h : k < 20) (e : sB i = sB k) : i = k := by
  have : ∀ i k : Fin 20, sB i = sB k → i.val = k.val := by decide +kernel
  exact this ⟨i, hi⟩ ⟨k, h⟩ e

theorem upper (w : World) (b : Int) (h : 0 ≤ b) (h1 : b ≤ 90) : Calls Tryz.prog 134 #[.int .u8 b] w fun e w' => e = .returned (.int .u8 b) ∧ Below w.heap.size w w' := by
  refine (F.oned_codabarWriter_upper.calls 1 b b w ?_).mono ?_
  · rw [F.oned_codabarWriter_upper.f, if_neg (by omega)]
    simp only [F.oned_codabarWriter_upper.j0]
    rw [if_neg (by simp), if_neg (by omega)]
  · rintro e w' ⟨rfl, h⟩
    exact ⟨rfl, h.below⟩
theorem has_run (xs : List Int) (hx : xs.length ≤ 1000) (b : Int) : ∀ (d i : Nat), i + d = xs.length → Ev (fun k => F.oned_codabarReader_arrayContains.l0 k b xs xs.length i) (decide (b ∈ xs.drop i)) := by
  intro d
  induction d with
  | zero =>
    intro i hi
    have : decide (b ∈ xs.drop i) = false := by rw [List.drop_of_length_le (by omega)]; simp
    rw [this]
    refine Ev.step (f := fun _ => some false) (fun k => ?_) (Ev.now _)
    rw [F.oned_codabarReader_arrayContains.l0, if_neg (by omega)]
  | succ d ih =>
    intro i hi
    have hil : i < xs.length := by omega
    have hrd : rd xs (i : Int) = xs[i] := by simp [rd, List.getElem?_eq_getElem hil]
    by_cases e : xs[i] = b
    · have : decide (b ∈ xs.drop i) = true := decide_eq_true (by rw [List.drop_eq_getElem_cons hil]; simp [e])
      rw [this]
      refine Ev.step (f := fun _ => some true) (fun k => ?_) (Ev.now _)
      rw [F.oned_codabarReader_arrayContains.l0, if_pos (by omega), if_pos (by omega), if_pos (by omega), hrd, if_pos e]
    · have : decide (b ∈ xs.drop i) = decide (b ∈ xs.drop (i + 1)) := by
        rw [decide_eq_decide, List.drop_eq_getElem_cons hil, List.mem_cons]
        constructor
        · rintro (h | h)
          · exact absurd h.symm e
          · exact h
        · exact Or.inr
      rw [this]
      refine Ev.step (fun k => ?_) (ih (i + 1) (by omega))
      rw [F.oned_codabarReader_arrayContains.l0, if_pos (by omega), if_pos (by omega), if_pos (by omega), hrd, if_neg e, show wrap64 ((i : Int) + 1) = ((i + 1 : Nat) : Int) by unfold wrap64; omega]
theorem has (w : World) (A : Option Addr) (c n : Nat) (xs : List Int) (b : Int) (r : Bool) (hC : Kd.C (Kd.int .u8) w A n xs) (hn : xs.length = n) (hc : n ≤ c) (hm : n ≤ 1000) (hr : decide (b ∈ xs) = r) :
    Calls Tryz.prog 135 #[.slice A n c, .int .u8 b] w fun e w' => e = .returned (.bool r) ∧ Below w.heap.size w w' := by
  subst hn
  obtain ⟨k, hk⟩ := (has_run xs hm b xs.length 0 (by omega)).rounds
  rw [List.drop_zero, hr] at hk
  refine (F.oned_codabarReader_arrayContains.calls k A c xs b r w hC hc hk).mono ?_
  rintro e w' ⟨rfl, h⟩
  exact ⟨rfl, h.below⟩
theorem tab8 {f : Nat} {xs : List Int} {w : World} (h : Calls Tryz.prog f #[] w fun e w' => ∃ v0_ : Value, e = .returned (v0_) ∧ Kd.R (Kd.int .u8) 5 w' w.heap.size (fun _ => True) v0_ xs ∧ Below w.heap.size w w') :
    Calls Tryz.prog f #[] w fun e w' => ∃ A c, e = .returned (.slice A xs.length c) ∧ xs.length ≤ c ∧ Kd.C (Kd.int .u8) w' A xs.length xs ∧ Below w.heap.size w w' := by
  refine h.mono ?_
  rintro e w' ⟨v, rfl, hr, hb⟩
  obtain ⟨A, c, rfl, h1, h2⟩ := Kd.R_reads hr
  exact ⟨A, c, rfl, h1, h2, hb⟩
def se : List Int := [65, 66, 67, 68]
def alt : List Int := [84, 78, 42, 69]
def ten : List Int := [47, 58, 43, 46]
theorem t136 (w : World) : Calls Tryz.prog 136 #[] w fun e w' => ∃ A c, e = .returned (.slice A 4 c) ∧ 4 ≤ c ∧ Kd.C (Kd.int .u8) w' A 4 se ∧ Below w.heap.size w w' := tab8 (F.oned_codabarWriter_START_END_CHARS.calls se w rfl)
theorem t137 (w : World) : Calls Tryz.prog 137 #[] w fun e w' => ∃ A c, e = .returned (.slice A 4 c) ∧ 4 ≤ c ∧ Kd.C (Kd.int .u8) w' A 4 alt ∧ Below w.heap.size w w' := tab8 (F.oned_codabarWriter_ALT_START_END_CHARS.calls alt w rfl)
theorem t138 (w : World) : Calls Tryz.prog 138 #[] w fun e w' => ∃ A c, e = .returned (.slice A 4 c) ∧ 4 ≤ c ∧ Kd.C (Kd.int .u8) w' A 4 ten ∧ Below w.heap.size w w' := tab8 (F.oned_codabarWriter_CHARS_WHICH_ARE_TEN_LENGTH_EACH_AFTER_DECODED.calls ten w rfl)
theorem t139 (w : World) : Calls Tryz.prog 139 #[] w fun e w' => ∃ A c, e = .returned (.slice A 20 c) ∧ 20 ≤ c ∧ Kd.C (Kd.int .i64) w' A 20 encB ∧ Below w.heap.size w w' := by
  refine (F.oned_codabarReader_CHARACTER_ENCODINGS.calls encB w rfl).mono ?_
  rintro e w' ⟨v, rfl, hr, hb⟩
  obtain ⟨A, c, rfl, h1, h2⟩ := Kd.R_reads hr
  exact ⟨A, c, rfl, h1, h2, hb⟩

theorem bar_se (k : Nat) (h1 : 16 ≤ k) (h : k < 20) : decide (sB k ∈ se) = true ∧ decide (sB k ∈ alt) = false := by
  have : ∀ k : Fin 20, 16 ≤ k.val → decide (sB k ∈ se) = true ∧ decide (sB k ∈ alt) = false := by decide +kernel
  exact this ⟨k, h⟩ h1

theorem below_undrew {B : Nat} {w w1 : World} (h : Below B w.drew w1) : Below B w w1 := ⟨h.os, h.tape, h.output, h.size, h.block⟩
theorem sumB_step (ns : List Nat) (i : Nat) (h : i < ns.length) : sumB (ns.take (i + 1)) = sumB (ns.take i) + lenB (ns.getD i 0) := by
  unfold sumB
  rw [List.take_succ_eq_append_getElem h, List.map_append, List.sum_append, List.getD_eq_getElem?_getD, List.getElem?_eq_getElem h]
  simp
theorem bar_sum1 {t : ByteArray} {ns : List Nat} {n : Nat} (h : IsBar t ns n) : (20 : Int) = 10 + (sumB (ns.take 1) : Int) := by
  have hl : 0 < ns.length := by have := h.len; have := h.two; omega
  rw [sumB_step ns 0 hl]
  have hf := h.first
  have : lenB (ns.getD 0 0) = 10 := by unfold lenB; rw [if_neg (by omega)]
  rw [this]
  simp [sumB]
/-- What is written ahead of the sign i. -/
def posB (ns : List Nat) (i : Nat) : List Bool := if i < ns.length then preB (ns.take i) else codeB ns
theorem posB_zero (ns : List Nat) (h : 0 < ns.length) : posB ns 0 = [] := by unfold posB; rw [if_pos h]; rfl
def w7to (a : Int) (q c : Nat) : List Bool := bars true ((w7 a).take q) ++ List.replicate c (q % 2 == 0)
theorem w7_facts (k q c : Nat) (hk : k < 20) (hq : q < 7) (hc : c ≤ 1) (a : Int) (ha : rd encB (k : Int) = a) :
    (bits BinOp.and IntKind.i64 (a / 2 ^ (6 - q)) 1 = 0 ↔ w7at a q = 1) ∧ (w7at a q = 1 ∨ w7at a q = 2) ∧ ((c = 1 → w7at a q = 2) → (w7to a q c).length < lenB k) ∧ (w7at a q = ((c + 1 : Nat) : Int) → w7to a q c ++ [q % 2 == 0] = w7to a (q + 1) 0) ∧ w7to a q 0 ++ [q % 2 == 0] = w7to a q 1 := by
  subst ha
  have : ∀ (k : Fin 20) (q : Fin 7) (c : Fin 2), (decide (bits BinOp.and IntKind.i64 (rd encB (k.val : Int) / 2 ^ (6 - q.val)) 1 = 0) == decide (w7at (rd encB (k.val : Int)) q.val = 1)) = true ∧ (w7at (rd encB (k.val : Int)) q.val = 1 ∨ w7at (rd encB (k.val : Int)) q.val = 2) ∧ ((c.val = 1 → w7at (rd encB (k.val : Int)) q.val = 2) → (w7to (rd encB (k.val : Int)) q.val c.val).length < lenB k.val) ∧ (w7at (rd encB (k.val : Int)) q.val = ((c.val + 1 : Nat) : Int) → w7to (rd encB (k.val : Int)) q.val c.val ++ [q.val % 2 == 0] = w7to (rd encB (k.val : Int)) (q.val + 1) 0) ∧ w7to (rd encB (k.val : Int)) q.val 0 ++ [q.val % 2 == 0] = w7to (rd encB (k.val : Int)) q.val 1 := by decide +kernel
  obtain ⟨h1, h2⟩ := this ⟨k, hk⟩ ⟨q, hq⟩ ⟨c, by omega⟩
  refine ⟨?_, h2⟩
  simpa using h1
theorem w7_end (k : Nat) (hk : k < 20) (a : Int) (ha : rd encB (k : Int) = a) : w7to a 7 0 = chrB k := by
  subst ha
  have : ∀ (k : Fin 20), w7to (rd encB (k.val : Int)) 7 0 = chrB k.val := by decide +kernel
  exact this ⟨k, hk⟩
theorem put_write {w : World} {g : Nat} {xs ys : List Bool} (h : Blk w g 4 (bools (put xs ys)).toArray) (p : Int) (hp : p = (ys.length : Nat)) (hl : ys.length < xs.length) (v : Bool) : Blk (w.setCell ⟨g, p.toNat, none⟩ (.bool v)) g 4 (bools (put xs (ys ++ [v]))).toArray := by
  subst hp
  have := h.bset ys.length v
  rw [put_set xs ys v hl] at this
  simpa using this
theorem sumB_mono (ns : List Nat) (m : Nat) : ∀ d i, i + d = m → m ≤ ns.length → sumB (ns.take i) ≤ sumB (ns.take m) := by
  intro d
  induction d with
  | zero => intro i h _; rw [show i = m by omega]; exact Nat.le_refl _
  | succ d ih =>
    intro i h hm
    have := ih (i + 1) (by omega) hm
    rw [sumB_step ns i (by omega)] at this
    omega
theorem preB_take {t : ByteArray} {ns : List Nat} {n : Nat} (h : IsBar t ns n) (i : Nat) (hi : i ≤ n) : (preB (ns.take i)).length = sumB (ns.take i) + i := by
  rw [preB_length _ (fun d hd => h.all d (List.mem_of_mem_take hd)), List.length_take, h.len]
  omega
theorem posB_room {t : ByteArray} {ns : List Nat} {n R N : Nat} (h : IsBar t ns n) (hR : (R : Int) = 10 + (sumB (ns.take (n - 1)) : Int)) (hN : R + (n - 1) = N) (i : Nat) (hi : i < n) :
    (posB ns i).length + lenB (ns.getD i 0) ≤ N ∧ (i < n - 1 → (posB ns i).length + lenB (ns.getD i 0) < N) := by
  have hl := h.len
  unfold posB
  rw [if_pos (by omega), preB_take h i (by omega)]
  by_cases hlt : i < n - 1
  · have h1 := sumB_mono ns (n - 1) (n - 1 - (i + 1)) (i + 1) (by omega) (by omega)
    rw [sumB_step ns i (by omega)] at h1
    omega
  · obtain rfl : i = n - 1 := by omega
    have : lenB (ns.getD (n - 1) 0) = 10 := by have := h.last; unfold lenB; rw [if_neg (by omega)]
    omega
theorem codeB_length {t : ByteArray} {ns : List Nat} {n R N : Nat} (h : IsBar t ns n) (hR : (R : Int) = 10 + (sumB (ns.take (n - 1)) : Int)) (hN : R + (n - 1) = N) : (codeB ns).length = N := by
  have hl := h.len
  have h2 := h.two
  have : lenB (ns.getD (n - 1) 0) = 10 := by have := h.last; unfold lenB; rw [if_neg (by omega)]
  unfold codeB
  rw [List.length_append, hl, preB_take h (n - 1) (by omega), chrB_length _ (by have := h.last; omega)]
  omega
theorem posB_next {t : ByteArray} {ns : List Nat} {n : Nat} (h : IsBar t ns n) (i : Nat) (hi : i < n - 1) : posB ns (i + 1) = posB ns i ++ chrB (ns.getD i 0) ++ [false] := by
  have hl := h.len
  have hlt : i < ns.length := by omega
  unfold posB preB
  rw [if_pos (by omega), if_pos (by omega), List.take_succ_eq_append_getElem hlt, List.flatMap_append, List.getD_eq_getElem?_getD, List.getElem?_eq_getElem hlt]
  simp
theorem posB_end {t : ByteArray} {ns : List Nat} {n : Nat} (h : IsBar t ns n) : posB ns n = posB ns (n - 1) ++ chrB (ns.getD (n - 1) 0) := by
  have hl := h.len
  have h2 := h.two
  unfold posB codeB
  rw [if_neg (by omega), if_pos (by omega), hl]
set_option maxHeartbeats 8000000 in
set_option maxRecDepth 100000 in
theorem encBar_calls (w : World) (mv : Value) (text : ByteArray) (ns : List Nat) (n : Nat) (hn2 : n ≤ 80) (ht : IsBar text ns n) :
    Calls Tryz.prog 132 #[.agg #[], .string text, mv] w fun e w' => ∃ v, e = .returned (.tuple #[v, .nilIface]) ∧ Kd.R Kd.bool 4 w' w.heap.size (fun _ => True) v (codeB ns) ∧ Below w.heap.size w w' := by
  have hsz : text.size = n := by rw [← data_length, ht.text]; simp [ht.len]
  have hsI : (text.size : Int) = (n : Int) := by omega
  have h2 : decide ((n : Int) < 2) = false := decide_eq_false (by have := ht.two; omega)
  have hn0 : 2 ≤ n := ht.two
  have HT := Aside0.mk ht
  have HSZ := Aside0.mk hsz
  have hs0 : 0 < text.size := by omega
  have hs1 : n - 1 < text.size := by omega
  obtain ⟨hb0, hd0⟩ := ht.get 0 hs0
  obtain ⟨hb1, hd1⟩ := ht.get (n - 1) hs1
  obtain ⟨f0, hf0⟩ : ∃ f, sB (ns.getD 0 0) = f := ⟨_, rfl⟩
  obtain ⟨f1, hf1⟩ : ∃ f, sB (ns.getD (n - 1) 0) = f := ⟨_, rfl⟩
  rw [hf0] at hb0
  rw [hf1] at hb1
  have hr0 : 36 ≤ f0 ∧ f0 ≤ 68 := by rw [← hf0]; exact sB_lt _ ht.first.2
  have hr1 : 36 ≤ f1 ∧ f1 ≤ 68 := by rw [← hf1]; exact sB_lt _ ht.last.2
  obtain ⟨hr00, hr01⟩ := hr0
  obtain ⟨hr10, hr11⟩ := hr1
  have hse0 := bar_se _ ht.first.1 ht.first.2
  have hse1 := bar_se _ ht.last.1 ht.last.2
  rw [hf0] at hse0
  rw [hf1] at hse1
  have HSE0 := Aside0.mk hse0
  have HSE1 := Aside0.mk hse1
  clear hse0 hse1
  have HF0 := Aside0.mk hf0
  have HF1 := Aside0.mk hf1
  clear ht hsz hf0 hf1 hd0 hd1
  go_enter Tryz.func132, Tryz.ntmps132
  go_wp2_with fail
  refine (upper _ f0 (by omega) (by omega)).mono ?_
  rintro e w1 ⟨rfl, hb⟩
  have HB1 := Aside0.mk ((below_alloc (Below.refl _ w) (.cells #[] 88)).trans (hb.mono (by simp)))
  clear hb
  go_wp2_with fail
  refine (upper _ f1 (by omega) (by omega)).mono ?_
  rintro e w2 ⟨rfl, hb⟩
  have HB2 := Aside0.mk (HB1.out.trans (hb.mono HB1.out.size))
  clear hb HB1 hb0 hb1
  go_wp2_with fail
  refine (t136 _).mono ?_
  rintro e w3 ⟨A3, c3, rfl, hc3, hC3, hb⟩
  have HB3 := Aside0.mk (HB2.out.trans (hb.mono HB2.out.size))
  have HC3 := Aside0.mk hC3
  clear hb HB2 hC3
  go_wp2_with fail
  refine (has _ A3 c3 4 se f0 true HC3.out rfl hc3 (by omega) HSE0.out.1).mono ?_
  rintro e w4 ⟨rfl, hb⟩
  have HB4 := Aside0.mk (HB3.out.trans (hb.mono HB3.out.size))
  clear hb HB3 HC3
  go_wp2_with fail
  refine (t136 _).mono ?_
  rintro e w5 ⟨A5, c5, rfl, hc5, hC5, hb⟩
  have HB5 := Aside0.mk (HB4.out.trans (hb.mono HB4.out.size))
  have HC5 := Aside0.mk hC5
  clear hb HB4 hC5
  go_wp2_with fail
  refine (has _ A5 c5 4 se f1 true HC5.out rfl hc5 (by omega) HSE1.out.1).mono ?_
  rintro e w6 ⟨rfl, hb⟩
  have HB6 := Aside0.mk (HB5.out.trans (hb.mono HB5.out.size))
  clear hb HB5 HC5
  go_wp2_with fail
  refine (t137 _).mono ?_
  rintro e w7 ⟨A7, c7, rfl, hc7, hC7, hb⟩
  have HB7 := Aside0.mk (HB6.out.trans (hb.mono HB6.out.size))
  have HC7 := Aside0.mk hC7
  clear hb HB6 hC7
  go_wp2_with fail
  refine (has _ A7 c7 4 alt f0 false HC7.out rfl hc7 (by omega) HSE0.out.2).mono ?_
  rintro e w8 ⟨rfl, hb⟩
  have HB8 := Aside0.mk (HB7.out.trans (hb.mono HB7.out.size))
  clear hb HB7 HC7
  go_wp2_with fail
  refine (t137 _).mono ?_
  rintro e w9 ⟨A9, c9, rfl, hc9, hC9, hb⟩
  have HB9 := Aside0.mk (HB8.out.trans (hb.mono HB8.out.size))
  have HC9 := Aside0.mk hC9
  clear hb HB8 hC9
  go_wp2_with fail
  refine (has _ A9 c9 4 alt f1 false HC9.out rfl hc9 (by omega) HSE1.out.2).mono ?_
  rintro e w10 ⟨rfl, hb⟩
  have HB10 := Aside0.mk (HB9.out.trans (hb.mono HB9.out.size))
  clear hb HB9 HC9
  have hn1 : ((n : Int) - 1) = ((n - 1 : Nat) : Int) := by omega
  go_wp2_with fail
  clear hn1
  go_loopw [14, 15] (fun rv v wr => ∃ (i : Nat) (rl : Int), 1 ≤ i ∧ i ≤ n - 1 ∧ v = .int .i64 i ∧ rv = .int .i64 rl ∧ 0 ≤ rl ∧ rl ≤ 10 + 10 * (i : Int) ∧ Aside0 (rl = 10 + (sumB (ns.take i) : Int)) ∧ Aside0 (Below w.heap.size w wr)) (fun _ v _ => n - (intOf v).toNat)
  case atStart => exact ⟨1, 20, by omega, by omega, rfl, rfl, by omega, by omega, ⟨bar_sum1 HT.out⟩, HB10⟩
  case round =>
    obtain ⟨i, rl, hi1, hi2, rfl, rfl, hrl0, hrl1, HRL, HB⟩ := hrel
    clear HB10
    by_cases hlt : i < n - 1
    · have hli : decide ((i : Int) < (n : Int) - 1) = true := decide_eq_true (by omega)
      have his : i < text.size := by have := HSZ.out; omega
      obtain ⟨hbi, hdi⟩ := HT.out.get i his
      obtain ⟨fi, hfi⟩ : ∃ f, sB (ns.getD i 0) = f := ⟨_, rfl⟩
      have hcase := sB_inner _ (HT.out.inner i (by omega) hlt)
      rw [hfi] at hbi hcase
      have HFI := Aside0.mk hfi
      clear hfi hdi
      rcases hcase with ⟨h48, h57, hl9⟩ | ⟨h45, hl9⟩ | ⟨h36, hl9⟩ | ⟨hl10, hten⟩
      · have HL9 := Aside0.mk hl9
        clear hl9
        have d1 : decide ((48 : Int) ≤ fi) = true := decide_eq_true h48
        have d2 : decide (fi ≤ (57 : Int)) = true := decide_eq_true h57
        go_wp2
        go_roundw
        case rel => exact ⟨i + 1, rl + 9, by omega, by omega, by go_num, rfl, by omega, by omega, ⟨by rw [sumB_step ns i (by have := HT.out.len; omega), HRL.out, HL9.out]; omega⟩, HB⟩
        case measure => simp [intOf]; omega
      · have HL9 := Aside0.mk hl9
        have HFF := Aside0.mk h45
        have d1 : decide ((48 : Int) ≤ fi) = false := decide_eq_false (by omega)
        have d2 : (fi == 45) = true := beq_iff_eq.2 h45
        clear hl9 h45
        go_wp2
        go_roundw
        case rel => exact ⟨i + 1, rl + 9, by omega, by omega, by go_num, rfl, by omega, by omega, ⟨by rw [sumB_step ns i (by have := HT.out.len; omega), HRL.out, HL9.out]; omega⟩, HB⟩
        case measure => simp [intOf]; omega
      · have HL9 := Aside0.mk hl9
        have d1 : decide ((48 : Int) ≤ fi) = false := decide_eq_false (by omega)
        have d2 : (fi == 45) = false := beq_eq_false_iff_ne.2 (by omega)
        have d3 : (fi == 36) = true := beq_iff_eq.2 h36
        clear hl9 h36
        go_wp2
        go_roundw
        case rel => exact ⟨i + 1, rl + 9, by omega, by omega, by go_num, rfl, by omega, by omega, ⟨by rw [sumB_step ns i (by have := HT.out.len; omega), HRL.out, HL9.out]; omega⟩, HB⟩
        case measure => simp [intOf]; omega
      · have HL10 := Aside0.mk hl10
        have hin : decide (fi ∈ ten) = true := by
          rcases hten with h | h | h | h <;> (rw [h]; decide)
        have hr : 43 ≤ fi ∧ fi ≤ 58 ∧ fi ≠ 45 := by omega
        obtain ⟨hr1, hr2, hr3⟩ := hr
        have HIN := Aside0.mk hin
        have d4 : (decide ((48 : Int) ≤ fi) && decide (fi ≤ (57 : Int))) = false := by
          rcases hten with h | h | h | h <;> (rw [h]; decide)
        have d2 : (fi == 45) = false := beq_eq_false_iff_ne.2 hr3
        have d3 : (fi == 36) = false := beq_eq_false_iff_ne.2 (by omega)
        clear hl10 hten hin hr3
        by_cases h48 : (48 : Int) ≤ fi
        · have d1 : decide ((48 : Int) ≤ fi) = true := decide_eq_true h48
          have d5 : decide (fi ≤ (57 : Int)) = false := by rw [d1] at d4; simpa using d4
          clear d4
          go_wp2_with fail
          go_region_with (first | (go_at_call 138; refine (t138 _).mono ?_; rintro e w' ⟨A1, c1, rfl, hc1, hC1, hb1⟩) | (go_at_call 135; refine (has _ _ _ 4 ten fi true (by assumption) rfl (by assumption) (by omega) HIN.out).mono ?_; rintro e w' ⟨rfl, hb2⟩))
          all_goals
            have HBB := Aside0.mk ((HB.out.trans ((below_undrew hb1).mono HB.out.size)).trans (hb2.mono (HB.out.trans ((below_undrew hb1).mono HB.out.size)).size))
            clear hb1 hb2 hC1
            go_wp2
            go_roundw
            case rel => exact ⟨i + 1, rl + 10, by omega, by omega, by go_num, rfl, by omega, by omega, ⟨by rw [sumB_step ns i (by have := HT.out.len; omega), HRL.out, HL10.out]; omega⟩, HBB⟩
            case measure => simp [intOf]; omega
        · have d1 : decide ((48 : Int) ≤ fi) = false := decide_eq_false h48
          clear d4
          go_wp2_with fail
          go_region_with (first | (go_at_call 138; refine (t138 _).mono ?_; rintro e w' ⟨A1, c1, rfl, hc1, hC1, hb1⟩) | (go_at_call 135; refine (has _ _ _ 4 ten fi true (by assumption) rfl (by assumption) (by omega) HIN.out).mono ?_; rintro e w' ⟨rfl, hb2⟩))
          all_goals
            have HBB := Aside0.mk ((HB.out.trans ((below_undrew hb1).mono HB.out.size)).trans (hb2.mono (HB.out.trans ((below_undrew hb1).mono HB.out.size)).size))
            clear hb1 hb2 hC1
            go_wp2
            go_roundw
            case rel => exact ⟨i + 1, rl + 10, by omega, by omega, by go_num, rfl, by omega, by omega, ⟨by rw [sumB_step ns i (by have := HT.out.len; omega), HRL.out, HL10.out]; omega⟩, HBB⟩
            case measure => simp [intOf]; omega
    · obtain rfl : i = n - 1 := by omega
      have hli : decide (((n - 1 : Nat) : Int) < (n : Int) - 1) = false := decide_eq_false (by omega)
      obtain ⟨R, rfl⟩ : ∃ R : Nat, rl = R := ⟨rl.toNat, by omega⟩
      obtain ⟨N, hN⟩ : ∃ N : Nat, R + (n - 1) = N := ⟨_, rfl⟩
      have hmk := make_bool N (by omega)
      have hmkn : (R : Int) + ((n : Int) - 1) = (N : Int) := by omega
      have HNR := Aside0.mk hN
      have hN1 : 1 ≤ N ∧ N ≤ 1000 := by omega
      obtain ⟨hN1, hN2⟩ := hN1
      clear hN
      go_wp2
      clear hmkn hmk
      obtain ⟨gt, hgt⟩ : ∃ gt, wr.heap.size = gt := ⟨_, rfl⟩
      obtain ⟨w11, hw11⟩ : ∃ w11, wr.alloc (.cells (bools (List.replicate N false)).toArray 4) = w11 := ⟨_, rfl⟩
      have hbk : Blk w11 gt 4 (bools (put (List.replicate N false) [])).toArray := by rw [← hw11, ← hgt, put_nil]; exact Blk.new _ _ _
      have hb11 : Below w.heap.size w w11 := by rw [← hw11]; exact HB.out.trans ((below_alloc (Below.refl _ wr) _).mono HB.out.size)
      have hge : w.heap.size ≤ gt := by rw [← hgt]; exact HB.out.size
      have HB11 := Aside0.mk hb11
      have HBK := Aside0.mk hbk
      simp only [hw11, hgt]
      clear hb11 hbk hw11 hgt HB
      go_loopw [17, 18] (fun pv v wi => ∃ (i : Nat) (p : Int), i ≤ n ∧ v = .int .i64 i ∧ pv = .int .i64 p ∧ 0 ≤ p ∧ p ≤ N ∧ Aside0 (p = ((posB ns i).length : Nat)) ∧ Aside0 (Blk wi gt 4 (bools (put (List.replicate N false) (posB ns i))).toArray) ∧ Aside0 (Below w.heap.size w wi)) (fun _ v _ => n - (intOf v).toNat)
      case atStart => exact ⟨0, 0, by omega, rfl, rfl, by omega, by omega, ⟨by rw [posB_zero ns (by have := HT.out.len; omega)]; rfl⟩, ⟨by rw [posB_zero ns (by have := HT.out.len; omega)]; exact HBK.out⟩, HB11⟩
      case round =>
        obtain ⟨i, p, hin, rfl, rfl, hp0, hp1, HP, HX, HBB⟩ := hrel
        clear HB11 HBK
        by_cases hlt2 : i < n
        · have his : i < text.size := by have := HSZ.out; omega
          obtain ⟨hbi, hdi⟩ := HT.out.get i his
          obtain ⟨k, hk⟩ : ∃ k, ns.getD i 0 = k := ⟨_, rfl⟩
          have hk20 := HT.out.lt i hlt2
          rw [hk] at hbi hk20
          obtain ⟨fi, hfi⟩ : ∃ f, sB k = f := ⟨_, rfl⟩
          have hfb := sB_lt k hk20
          rw [hfi] at hbi hfb
          obtain ⟨hfb0, hfb1⟩ := hfb
          have HKK := Aside0.mk hk
          have HFI := Aside0.mk hfi
          clear hk hfi hdi
          have d0 : decide ((i : Int) < (n : Int)) = true := decide_eq_true (by omega)
          go_wp2_with fail
          refine (upper _ fi (by omega) (by omega)).mono ?_
          rintro e w12 ⟨rfl, hb⟩
          have HX12 := Aside0.mk (HX.out.below hb HX.out.lt)
          have HB12 := Aside0.mk (HBB.out.trans (hb.mono HBB.out.size))
          clear hb HX HBB hbi
          have hx := sB_not k hk20
          rw [HFI.out] at hx
          obtain ⟨x1, x2, x3, x4⟩ := hx
          have hy : ((i : Int) == 0) = true ∨ (((i : Int) == 0) = false ∧ ((i : Int) == (n : Int) - 1) = true) ∨ (((i : Int) == 0) = false ∧ ((i : Int) == (n : Int) - 1) = false) := by
            cases ((i : Int) == 0) <;> cases ((i : Int) == (n : Int) - 1) <;> simp
          rcases hy with y1 | ⟨y1, y2⟩ | ⟨y1, y2⟩
          all_goals
            go_wp2
            clear x1 x2 x3 x4 y1
            try clear y2
            go_loopw [20, 21] (fun cv v wi => ∃ j : Nat, j ≤ k ∧ cv = .int .i64 0 ∧ v = .int .i64 j ∧ Aside0 (Blk wi gt 4 (bools (put (List.replicate N false) (posB ns i))).toArray) ∧ Aside0 (Below w.heap.size w wi)) (fun _ v _ => 20 - (intOf v).toNat)
            case atStart => exact ⟨0, by omega, rfl, rfl, HX12, HB12⟩
            case round =>
              obtain ⟨j, hj, rfl, rfl, HX, HBB⟩ := hrel
              clear HX12 HB12
              have e0 : decide ((j : Int) < 20) = true := decide_eq_true (by omega)
              have hjs : j < sgB.size := by show j < 20; omega
              have hbj : ((sgB[j]'hjs).toNat : Int) = sB j := by
                have : ∀ j : Fin 20, ((sgB[j.val]'j.isLt).toNat : Int) = sB j := by decide +kernel
                exact this ⟨j, by omega⟩
              obtain ⟨gj, hgj⟩ : ∃ f, sB j = f := ⟨_, rfl⟩
              rw [hgj] at hbj
              unfold sgB at hbj hjs
              by_cases hjk : j < k
              · have e1 : (fi == gj) = false := by
                  rw [← HFI.out, ← hgj]
                  exact beq_eq_false_iff_ne.2 (fun h => by have := sB_inj j k (by omega) hk20 h.symm; omega)
                clear hgj
                go_wp2
                go_roundw
                case rel => exact ⟨j + 1, by omega, rfl, by go_num, HX, HBB⟩
                case measure => simp [intOf]; omega
              · obtain rfl : j = k := by omega
                have e1 : (fi == gj) = true := by
                  rw [← HFI.out, ← hgj]
                  exact beq_self_eq_true _
                clear hgj hj hjk
                go_wp2_with fail
                refine (t139 _).mono ?_
                rintro e w13 ⟨A1, c1, rfl, hc1, hC1, hb1⟩
                have HX13 := Aside0.mk (HX.out.below hb1 HX.out.lt)
                have HB13 := Aside0.mk (HBB.out.trans (hb1.mono HBB.out.size))
                clear hb1 HX HBB
                obtain ⟨ad, rfl, hcell⟩ := Kd.at_int hC1 (j : Int) (by omega) (by omega)
                obtain ⟨a, ha⟩ : ∃ a, rd encB (j : Int) = a := ⟨_, rfl⟩
                rw [ha] at hcell
                have hcell : w13.cell? (ad.add j) = some (.int .i64 a) := hcell
                have HA := Aside0.mk ha
                clear ha hC1 hc1 hbj hjs e0 e1
                go_wp2
                go_loopw [17, 22, 23, 24] (fun pv lv cv v wi => ∃ (q c : Nat) (col : Bool) (p : Int), q ≤ 7 ∧ c ≤ 1 ∧ v = .int .i64 q ∧ cv = .int .i64 c ∧ lv = .bool col ∧ pv = .int .i64 p ∧ 0 ≤ p ∧ p ≤ N ∧ Aside0 (p = ((posB ns i).length + (w7to a q c).length : Nat)) ∧ Aside0 (col = (q % 2 == 0)) ∧ Aside0 (c = 1 → q < 7 ∧ w7at a q = 2) ∧ Aside0 (Blk wi gt 4 (bools (put (List.replicate N false) (posB ns i ++ w7to a q c))).toArray) ∧ Aside0 (Below w.heap.size w wi)) (fun _ _ cv v _ => 2 * (7 - (intOf v).toNat) - (intOf cv).toNat)
                case atStart => exact ⟨0, 0, true, p, by omega, by omega, rfl, rfl, rfl, rfl, hp0, hp1, ⟨by rw [HP.out]; rfl⟩, ⟨rfl⟩, ⟨by omega⟩, ⟨by have := HX13.out; simpa [w7to, bars] using this⟩, HB13⟩
                case round =>
                  obtain ⟨q, c, col, p, hq, hc, rfl, rfl, rfl, rfl, hp0, hp1, HP, HCOL, HCT, HX, HBB⟩ := hrel
                  clear HX13 HB13 hcell
                  by_cases hq7 : q < 7
                  · have d1 : decide ((q : Int) < 7) = true := decide_eq_true (by omega)
                    obtain ⟨g1, g2, g3, g4, g5⟩ := w7_facts j q c hk20 hq7 hc a HA.out
                    have hroom := (posB_room HT.out HRL.out HNR.out i hlt2).1
                    rw [HKK.out] at hroom
                    have hlw := g3 (fun h => (HCT.out h).2)
                    have hyl : (posB ns i ++ w7to a q c).length < N := by rw [List.length_append]; omega
                    have hpN : p < N := by rw [HP.out, ← List.length_append]; omega
                    have hfz := HX.out.frozen p.toNat
                    have hce := HX.out.bcell p hp0 (by rw [put_length _ _ (by simp only [List.length_replicate]; omega)]; simpa using hpN)
                    have HX1 := Aside0.mk (put_write HX.out p (by rw [HP.out, List.length_append]) (by simp only [List.length_replicate]; exact hyl) col)
                    have HB1 := Aside0.mk (HBB.out.trans ((Upd.of_turn (Turn.set wr gt p.toNat (.bool col))).below hge HBB.out.size))
                    have HG1 := Aside0.mk g1
                    have HG2 := Aside0.mk g2
                    have HG4 := Aside0.mk g4
                    have HG5 := Aside0.mk g5
                    clear g1 g2 g3 g4 g5 hroom hlw hyl HX HBB
                    go_wp2
                    all_goals
                      have hc1 := HCT.out
                      have hg1 := HG1.out
                      have hg2 := HG2.out
                      first
                      | (have hw : w7at a q = ((c + 1 : Nat) : Int) := by
                          first
                          | (have h : bits BinOp.and IntKind.i64 (a / 2 ^ (6 - q)) 1 = 0 := by assumption
                             have hw1 := hg1.1 h
                             have : c = 0 := by
                               rcases Nat.lt_or_ge 0 c with h0 | h0
                               · have := (hc1 (by omega)).2; omega
                               · omega
                             omega)
                          | (have h : ¬ bits BinOp.and IntKind.i64 (a / 2 ^ (6 - q)) 1 = 0 := by assumption
                             have h' : (bits BinOp.and IntKind.i64 (a / 2 ^ (6 - q)) 1 == 0) = true ∨ ((c : Int) == 1) = true := by assumption
                             have hcc : (c : Int) = 1 := by
                               rcases h' with h' | h'
                               · exact absurd (beq_iff_eq.1 h') h
                               · exact beq_iff_eq.1 h'
                             have := (hc1 (by omega)).2
                             omega)
                         refine ⟨⟨q + 1, 0, !col, p + 1, by omega, by omega, by go_num, rfl, rfl, rfl, by omega, by omega, ⟨by rw [← HG4.out hw, List.length_append, HP.out]; simp; omega⟩, ⟨by rw [HCOL.out]; rcases Nat.mod_two_eq_zero_or_one q with h | h <;> simp [h, Nat.add_mod]⟩, ⟨by omega⟩, ⟨by have := HX1.out; rw [HCOL.out, List.append_assoc, HG4.out hw] at this; rw [HCOL.out]; exact this⟩, HB1⟩, ?_⟩
                         simp only [intOf]
                         omega)
                      | (have h : ¬ bits BinOp.and IntKind.i64 (a / 2 ^ (6 - q)) 1 = 0 := by assumption
                         have h' : (bits BinOp.and IntKind.i64 (a / 2 ^ (6 - q)) 1 == 0) = false ∧ ((c : Int) == 1) = false := by assumption
                         have hc0 : c = 0 := by have := beq_eq_false_iff_ne.1 h'.2; omega
                         have hw : w7at a q = 2 := by
                           rcases hg2 with h1 | h1
                           · exact absurd (hg1.2 h1) h
                           · exact h1
                         subst hc0
                         refine ⟨⟨q, 1, col, p + 1, by omega, by omega, rfl, rfl, rfl, rfl, by omega, by omega, ⟨by rw [← HG5.out, List.length_append, HP.out]; simp; omega⟩, HCOL, ⟨fun _ => ⟨hq7, hw⟩⟩, ⟨by have := HX1.out; rw [HCOL.out, List.append_assoc, HG5.out] at this; rw [HCOL.out]; exact this⟩, HB1⟩, ?_⟩
                         simp only [intOf]
                         omega)
                  · obtain rfl : q = 7 := by omega
                    have hc0 : c = 0 := by
                      rcases Nat.lt_or_ge 0 c with h0 | h0
                      · have := (HCT.out (by omega)).1; omega
                      · omega
                    subst hc0
                    have HE := Aside0.mk (w7_end j hk20 a HA.out)
                    by_cases hlast : i < n - 1
                    · have e2 : decide ((i : Int) < (n : Int) - 1) = true := decide_eq_true (by omega)
                      have hroom := (posB_room HT.out HRL.out HNR.out i hlt2).2 hlast
                      rw [HKK.out] at hroom
                      have hyl : (posB ns i ++ w7to a 7 0).length < N := by rw [List.length_append, HE.out, chrB_length j hk20]; omega
                      have hpN : p < N := by rw [HP.out, ← List.length_append]; omega
                      have hfz := HX.out.frozen p.toNat
                      have hce := HX.out.bcell p hp0 (by rw [put_length _ _ (by simp only [List.length_replicate]; omega)]; simpa using hpN)
                      have HX1 := Aside0.mk (put_write HX.out p (by rw [HP.out, List.length_append]) (by simp only [List.length_replicate]; exact hyl) false)
                      have HB1 := Aside0.mk (HBB.out.trans ((Upd.of_turn (Turn.set wr gt p.toNat (.bool false))).below hge HBB.out.size))
                      clear hroom hyl HX HBB
                      go_wp2
                      go_roundw
                      case rel => exact ⟨i + 1, p + 1, by omega, by go_num, rfl, by omega, by omega, ⟨by rw [posB_next HT.out i hlast, HKK.out, ← HE.out, HP.out, List.length_append, List.length_append]; simp⟩, ⟨by have := HX1.out; rw [posB_next HT.out i hlast, HKK.out, ← HE.out]; exact this⟩, HB1⟩
                      case measure => simp [intOf]; omega
                    · have e2 : decide ((i : Int) < (n : Int) - 1) = false := decide_eq_false (by omega)
                      go_wp2
                      go_roundw
                      case rel => exact ⟨i + 1, p, by omega, by go_num, rfl, by omega, by omega, ⟨by
                        rw [show i + 1 = n by omega, posB_end HT.out, ← show i = n - 1 by omega, HKK.out, ← HE.out, HP.out, List.length_append]⟩, ⟨by
                        rw [show i + 1 = n by omega, posB_end HT.out, ← show i = n - 1 by omega, HKK.out, ← HE.out]; exact HX.out⟩, HBB⟩
                      case measure => simp [intOf]; omega
        · obtain rfl : i = n := by omega
          have d0 : decide ((i : Int) < (i : Int)) = false := decide_eq_false (by omega)
          go_wp2
          go_ret2
          have hlen := codeB_length HT.out HRL.out HNR.out
          refine ⟨_, rfl, ?_, HBB.out⟩
          have hx := HX.out
          have he : posB ns i = codeB ns := by unfold posB; rw [if_neg (by have := HT.out.len; omega)]
          rw [he, put_all _ _ (by rw [hlen]; simp)] at hx
          exact Kd.R_mono (R_of_blk hx hlen (by omega) (by omega)) (fun _ _ => trivial)
end Go.Proofs.YthkddnmomjcdaaaGreat.B
