import Derived.Test.YthkddnmomjcdaaaGreatD
import Derived.Test.YthkddnmomjcdaaaGreatF145
namespace Go.Proofs.YthkddnmomjcdaaaGreat.B
open Go.RowKit Go.Proofs.YthkddnmomjcdaaaGreatW.PrintWords Go.Proofs.YthkddnmomjcdaaaGreatW.PrintLast Go.Proofs.YthkddnmomjcdaaaGreatW.PrintMore
set_option linter.unusedVariables false
set_option linter.unusedSimpArgs false

/-! ### Rows of modules -/
/-- Runs of modules, in turns of two colours. -/
def bars (c : Bool) : List Int → List Bool
  | [] => []
  | n :: ns => List.replicate n.toNat c ++ bars (!c) ns
/-- A row whose first modules are ys. -/
def put {α : Type} (xs ys : List α) : List α := ys ++ xs.drop ys.length
theorem put_length {α : Type} (xs ys : List α) (h : ys.length ≤ xs.length) : (put xs ys).length = xs.length := by simp [put]; omega
theorem put_set {α : Type} (xs ys : List α) (v : α) (h : ys.length < xs.length) : (put xs ys).set ys.length v = put xs (ys ++ [v]) := by
  unfold put
  rw [List.set_append_right _ _ (Nat.le_refl _), Nat.sub_self, List.drop_eq_getElem_cons h, List.set_cons_zero]
  simp
theorem put_all {α : Type} (xs ys : List α) (h : ys.length = xs.length) : put xs ys = ys := by simp [put, h]
theorem put_nil {α : Type} (xs : List α) : put xs [] = xs := by simp [put]

theorem app_in (xs : List Bool) (c : Bool) (num len : Int) (ps : List Int) (plen idx : Int) (hX : xs.length ≤ 1000000000) (r : Int × List Bool) :
    ∀ (d : Nat) (ys : List Bool) (j : Int), 0 ≤ j → len - j = d → (ys.length : Int) + d ≤ xs.length → len ≤ 1000000 →
      Ev (fun k => F.oned_onedWriter_appendPattern.l0 k (put xs (ys ++ List.replicate d c)) (ys.length + d) (!c) (wrap64 (num + len)) ps plen (wrap64 (idx + 1))) r →
      Ev (fun k => F.oned_onedWriter_appendPattern.l1 k (put xs ys) ys.length c num len j ps plen idx) r := by
  intro d
  induction d with
  | zero =>
    intro ys j h0 hd hl hlen h
    refine Ev.step (fun k => ?_) h
    rw [F.oned_onedWriter_appendPattern.l1, if_neg (by omega)]
    simp
  | succ d ih =>
    intro ys j h0 hd hl hlen h
    have hpl := put_length xs ys (by omega)
    refine Ev.step (f := fun k => F.oned_onedWriter_appendPattern.l1 k (put xs (ys ++ [c])) ((ys ++ [c]).length : Nat) c num len (j + 1) ps plen idx) (fun k => ?_) ?_
    · rw [F.oned_onedWriter_appendPattern.l1, if_pos (by omega), if_pos (by omega), if_pos (by rw [hpl]; omega)]
      rw [Int.toNat_natCast, put_set _ _ _ (by omega), show wrap64 ((ys.length : Int) + 1) = ((ys ++ [c]).length : Nat) by simp; unfold wrap64; omega, show wrap64 (j + 1) = j + 1 by unfold wrap64; omega]
    · refine ih (ys ++ [c]) (j + 1) (by omega) (by omega) (by simp; omega) hlen ?_
      have e : ys ++ [c] ++ List.replicate d c = ys ++ List.replicate (d + 1) c := by simp [List.replicate_succ]
      rw [e]
      simp only [List.length_append, List.length_cons, List.length_nil]
      have e2 : (((ys.length + (0 + 1) : Nat) : Int) + (d : Int)) = (ys.length : Int) + ((d + 1 : Nat) : Int) := by omega
      rw [e2]
      exact h

theorem app_out (xs : List Bool) (ps : List Int) (hX : xs.length ≤ 1000000000) (hp : ∀ p ∈ ps, 0 ≤ p ∧ p ≤ 1000000) :
    ∀ (qs : List Int) (done : List Int) (ys : List Bool) (c : Bool) (num : Int), ps = done ++ qs → ys.length + (bars c qs).length ≤ xs.length → ps.length ≤ 1000000 → 0 ≤ num → num + (bars c qs).length ≤ 1000000000 →
      Ev (fun k => F.oned_onedWriter_appendPattern.l0 k (put xs ys) ys.length c num ps ps.length done.length) (num + (bars c qs).length, put xs (ys ++ bars c qs)) := by
  intro qs
  induction qs with
  | nil =>
    intro done ys c num he hl hpl h0 hn
    refine Ev.step (f := fun _ => some (num, put xs ys)) (fun k => ?_) ?_
    · rw [F.oned_onedWriter_appendPattern.l0, if_neg (by rw [he]; simp)]
    · simpa [bars] using Ev.now (num, put xs ys)
  | cons q qs ih =>
    intro done ys c num he hl hpl h0 hn
    have hq := hp q (by rw [he]; simp)
    have hlen : (bars c (q :: qs)).length = q.toNat + (bars (!c) qs).length := by simp [bars]
    have hlt : (done.length : Int) < ps.length := by rw [he]; simp; omega
    have hrd : rd ps done.length = q := by simp [rd, he]
    refine Ev.step (f := fun k => F.oned_onedWriter_appendPattern.l1 k (put xs ys) ys.length c num q 0 ps ps.length done.length) (fun k => ?_) ?_
    · rw [F.oned_onedWriter_appendPattern.l0, if_pos hlt, if_pos (by omega), if_pos hlt, hrd]
    · refine app_in xs c num q ps ps.length done.length hX _ q.toNat ys 0 (by omega) (by omega) (by omega) (by omega) ?_
      have := ih (done ++ [q]) (ys ++ List.replicate q.toNat c) (!c) (num + q) (by simp [he]) (by simp; omega) hpl (by omega) (by omega)
      rw [show wrap64 (num + q) = num + q by unfold wrap64; omega, show wrap64 ((done.length : Int) + 1) = ((done ++ [q]).length : Nat) by simp; unfold wrap64; omega]
      have e1 : (ys.length : Int) + (q.toNat : Int) = ((ys ++ List.replicate q.toNat c).length : Nat) := by simp
      rw [e1]
      have e2 : num + q + ((bars (!c) qs).length : Int) = num + ((bars c (q :: qs)).length : Int) := by rw [hlen]; omega
      rw [e2] at this
      have e3 : ys ++ List.replicate q.toNat c ++ bars (!c) qs = ys ++ bars c (q :: qs) := by simp [bars]
      rw [e3] at this
      exact this

/-- Of what was there just the block g may have turned. -/
structure Upd (w w' : World) (g : Nat) : Prop where
  os : w'.os = w.os
  tape : w'.tape = w.tape
  output : w'.output = w.output
  size : w.heap.size ≤ w'.heap.size
  block : ∀ k, k < w.heap.size → k ≠ g → w'.heap[k]? = w.heap[k]?
theorem Upd.refl (w : World) (g : Nat) : Upd w w g := ⟨rfl, rfl, rfl, Nat.le_refl _, fun _ _ _ => rfl⟩
theorem Upd.trans {a b c : World} {g : Nat} (h : Upd a b g) (k : Upd b c g) : Upd a c g := ⟨k.os.trans h.os, k.tape.trans h.tape, k.output.trans h.output, Nat.le_trans h.size k.size, fun i hi hn => (k.block i (Nat.lt_of_lt_of_le hi h.size) hn).trans (h.block i hi hn)⟩
theorem Upd.of_below {w w' : World} (g : Nat) (h : Below w.heap.size w w') : Upd w w' g := ⟨h.os, h.tape, h.output, h.size, fun k hk _ => h.block k hk⟩
theorem Upd.of_turn {w w' : World} {g : Nat} (h : Turn w w' g) : Upd w w' g := ⟨h.os, h.tape, h.output, Nat.le_of_eq h.size.symm, fun k _ hn => h.block k hn⟩
theorem Upd.blk {w w' : World} {g k : Nat} {t : TypeId} {cs : Array Value} (h : Upd w w' g) (hb : Blk w k t cs) (hne : k ≠ g) : Blk w' k t cs := (h.block k hb.lt hne).trans hb
theorem Upd.below {w w' : World} {g B : Nat} (h : Upd w w' g) (hB : B ≤ g) (hs : B ≤ w.heap.size) : Below B w w' := ⟨h.os, h.tape, h.output, h.size, fun k hk => h.block k (by omega) (by omega)⟩

theorem R_of_blk {w : World} {g N : Nat} {xs : List Bool} (h : Blk w g 4 (bools xs).toArray) (hN : xs.length = N) (hm : N ≤ 1000000000) {base : Nat} (hb : base ≤ g) : Kd.R Kd.bool 4 w base (fun k => k = g) (.slice (some ⟨g, 0, none⟩) N N) xs := by
  refine Kd.R_of_own (enc := Value.bool) (h1 := fun _ => rfl) ⟨by simp [encs], .inr ⟨g, N, _, by rw [hN], hb, h, by omega, by unfold maxLen; omega, by simp [bools, hN], ?_⟩⟩ (fun k hk => ?_)
  · rw [Nat.mul_one, List.toList_toArray]
    exact List.take_of_length_le (by simp [bools])
  · simpa [Value.ownBlock] using hk.symm
theorem blk_of_R {w : World} {g N base : Nat} {xs : List Bool} {ok : Nat → Prop} (h : Kd.R Kd.bool 4 w base ok (.slice (some ⟨g, 0, none⟩) N N) xs) (h0 : 0 < N) : Blk w g 4 (bools xs).toArray := by
  obtain ⟨h1, h2 | ⟨g', cap, cur, he, hb, hh, h3, h4, h5, h6⟩⟩ := Kd.own_of_R (enc := Value.bool) (h1 := fun _ => rfl) h
  · simp at h2
  · injection he with e1 e2 e3
    injection e1 with e1
    injection e1 with e1
    subst e1 e3
    have e : cur = (bools xs).toArray := by
      apply Array.toList_inj.1
      rw [← e2, Nat.mul_one, List.take_of_length_le (by rw [Array.length_toList, h5]; omega)] at h6
      rw [h6]
      rfl
    rw [← e]
    exact hh

/-- The cells of a row of numbers are none of a row of bools. -/
theorem C_kept {w : World} {gt : Nat} {xs : List Bool} {k : IntKind} {A : Option Addr} {ps : List Int} (hb : Blk w gt 4 (bools xs).toArray) (hC : Kd.C (Kd.int k) w A ps.length ps) (W : World) (hk : Kept w W (fun i => i = gt)) : Kd.C (Kd.int k) W A ps.length ps := by
  have hr := Kd.reads_of_C (enc := Value.int k) (d := (0 : Int)) (h1 := fun _ => rfl) hC
  refine Kd.C_of_reads (enc := Value.int k) (d := (0 : Int)) (h1 := fun _ => rfl) ⟨rfl, hr.2.1, fun hp => ?_⟩
  obtain ⟨ad, rfl, hc⟩ := hr.2.2 hp
  refine ⟨ad, rfl, fun j hj => ?_⟩
  have h1 := hc j hj
  have hlt := World.block_lt_of_cell? w _ h1
  by_cases e : (ad.add j).block = gt
  · exfalso
    have hbk : w.heap[(ad.add j).block]? = some (.cells (bools xs).toArray 4 (0, 0)) := by rw [e]; exact hb
    unfold World.cell? at h1
    rw [hbk] at h1
    simp only at h1
    split at h1
    · cases h1
    · simp only [bools, List.getElem?_toArray, List.getElem?_map] at h1
      cases hx : xs[(ad.add j).off]? with
      | none => rw [hx] at h1; simp at h1
      | some v => rw [hx] at h1; simp at h1
  · exact (World.cell?_of_block (w := w) (hk.2 _ hlt e)).trans h1

/-- The world without its blocks from g on. -/
def cutAt (w : World) (g : Nat) : World := { w with heap := w.heap.extract 0 g }
theorem cut_size (w : World) (g : Nat) (h : g ≤ w.heap.size) : (cutAt w g).heap.size = g := by simp [cutAt]; omega
theorem cut_below (w : World) (g : Nat) (h : g ≤ w.heap.size) : Below (cutAt w g).heap.size (cutAt w g) w := by
  refine ⟨rfl, rfl, rfl, by rw [cut_size w g h]; exact h, fun k hk => ?_⟩
  rw [cut_size w g h] at hk
  show _ = (w.heap.extract 0 g)[k]?
  rw [Array.getElem?_extract]
  simp [hk]
  intro h1
  omega

theorem appendPat (w : World) (gt N : Nat) (xs ys : List Bool) (A : Option Addr) (c : Nat) (ps : List Int) (col : Bool) (hb : Blk w gt 4 (bools (put xs ys)).toArray) (hN : xs.length = N) (h0 : 0 < N) (hm : N ≤ 1000000000)
    (m : Nat) (hpm : ps.length = m) (hC : Kd.C (Kd.int .i64) w A m ps) (hc : m ≤ c) (hp : ∀ p ∈ ps, 0 ≤ p ∧ p ≤ 1000000) (hpl : m ≤ 1000000) (hl : ys.length + (bars col ps).length ≤ N) :
    Calls Tryz.prog 145 #[.slice (some ⟨gt, 0, none⟩) N N, .int .i64 ys.length, .slice A m c, .bool col] w fun e w' => e = .returned (.int .i64 ((bars col ps).length : Nat)) ∧ Blk w' gt 4 (bools (put xs (ys ++ bars col ps))).toArray ∧ Upd w w' gt := by
  subst hpm
  obtain ⟨k, hk⟩ := (app_out xs ps (by omega) hp ps [] ys col 0 rfl (by omega) hpl (by omega) (by omega)).rounds
  have hpn := put_length xs ys (by omega)
  have hbl : gt ≤ w.heap.size := Nat.le_of_lt hb.lt
  have hr := R_of_blk hb (by rw [hpn, hN]) hm (base := (cutAt w gt).heap.size) (by rw [cut_size w gt hbl]; omega)
  refine (F.oned_onedWriter_appendPattern.calls k (fun i => i = gt) _ _ _ A c ps col _ _ (cutAt w gt) w (cut_below w gt hbl) hr (C_kept hb hC) hc (by
    unfold F.oned_onedWriter_appendPattern.f
    exact hk)).mono ?_
  rintro e w' ⟨rfl, h1, h2, h3⟩
  refine ⟨by simp, blk_of_R h1 h0, ⟨h2.os, h2.tape, h2.output, h3.1, fun i hi hn => h3.2 i hi hn⟩⟩
/-- The same, the place and the answer as they are spelled. -/
theorem appendPat' (w : World) (gt N : Nat) (xs ys : List Bool) (A : Option Addr) (c : Nat) (ps : List Int) (col : Bool) (pos r : Int) (hpos : (ys.length : Int) = pos) (hr : ((bars col ps).length : Int) = r) (hb : Blk w gt 4 (bools (put xs ys)).toArray) (hN : xs.length = N) (h0 : 0 < N) (hm : N ≤ 1000000000)
    (m : Nat) (hpm : ps.length = m) (hC : Kd.C (Kd.int .i64) w A m ps) (hc : m ≤ c) (hp : ∀ p ∈ ps, 0 ≤ p ∧ p ≤ 1000) (hpl : m ≤ 1000000) (hl : pos + r ≤ N) :
    Calls Tryz.prog 145 #[.slice (some ⟨gt, 0, none⟩) N N, .int .i64 pos, .slice A m c, .bool col] w fun e w' => e = .returned (.int .i64 r) ∧ Blk w' gt 4 (bools (put xs (ys ++ bars col ps))).toArray ∧ Upd w w' gt := by
  subst hpos hr
  exact appendPat w gt N xs ys A c ps col hb hN h0 hm m hpm hC hc (fun p h => by have := hp p h; omega) hpl (by omega)
end Go.Proofs.YthkddnmomjcdaaaGreat.B
