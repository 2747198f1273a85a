import Derived.Test.YthkddnmomjcdaaaGreatR
import Derived.Test.YthkddnmomjcdaaaGreatI
import Derived.Test.YthkddnmomjcdaaaGreatF23
namespace Go.Proofs.YthkddnmomjcdaaaGreat.B
open Go.RowKit Go.Proofs.YthkddnmomjcdaaaGreatW.PrintWords Go.Proofs.YthkddnmomjcdaaaGreatW.PrintLast Go.Proofs.YthkddnmomjcdaaaGreatW.PrintMore
set_option linter.unusedVariables false
set_option linter.unusedSimpArgs false

/-! ### The reference's Interleaved 2 of 5 -/
theorem bt_dig {t : ByteArray} {ds : List Nat} (h : IsDigits t ds) (i : Nat) (hi : i < t.size) : bt t i = 48 + (ds.getD i 0 : Nat) ∧ ds.getD i 0 < 10 := by
  obtain ⟨hd, h1, h2⟩ := digits_get h i hi
  have e : ds.getD i 0 = ds[i] := by rw [List.getD_eq_getElem?_getD, List.getElem?_eq_getElem hd]; rfl
  rw [e]
  refine ⟨?_, h2⟩
  have := bt_at t (i : Int) (by simpa using hi)
  rw [← this]
  simp only [Int.toNat_natCast, h1]
  omega
theorem elem_itf (a : Nat) (ha : a < 10) : ∃ wd, F.spec_odItfWide.f ((48 + (a : Int) - 48) % 256) = some wd ∧ Ev (fun k => F.spec_odElements.f k wd 5 3) (itfPat a) := by
  have : ∀ a : Fin 10, ∃ wd, F.spec_odItfWide.f ((48 + ((a : Nat) : Int) - 48) % 256) = some wd ∧ F.spec_odElements.f 6 wd 5 3 = some (itfPat a) := by
    intro a
    refine ⟨(F.spec_odItfWide.f ((48 + ((a : Nat) : Int) - 48) % 256)).getD 0, ?_⟩
    revert a
    decide +kernel
  obtain ⟨wd, h1, h2⟩ := this ⟨a, ha⟩
  exact ⟨wd, h1, Ev.of (F.spec_odElements.mono _ _ _) h2⟩

def itfWs : List Nat → List Int
  | a :: b :: r => inter (itfPat a) (itfPat b) ++ itfWs r
  | _ => []
theorem itf_bars : ∀ (ds : List Nat), (∀ d ∈ ds, d < 10) → (itfWs ds).length % 2 = 0 ∧ bars true (itfWs ds) = itfBody ds
  | [], _ => ⟨rfl, rfl⟩
  | [a], _ => ⟨rfl, rfl⟩
  | a :: b :: r, h => by
    have ha := h a (by simp)
    have hb := h b (by simp)
    obtain ⟨h1, h2⟩ := itf_bars r (fun d hd => h d (by simp [hd]))
    have hl := inter_len a b ha hb 5 (by omega)
    rw [pat_take a ha, pat_take b hb] at hl
    refine ⟨by simp only [itfWs, List.length_append]; omega, ?_⟩
    simp only [itfWs, itfBody]
    rw [bars_even _ _ (by omega), h2]

theorem itf_in (x0 : ByteArray) (i : Int) (a b : Nat) (ha : a < 10) (hb : b < 10) (r : List Bool) (ws : List Int) (hw : ws.length ≤ 1000000)
    (H : Ev (fun k => F.spec_ODItf.l0 k x0 (ws ++ inter (itfPat a) (itfPat b)) (wrap64 (i + 2))) r) : Ev (fun k => F.spec_ODItf.l1 k x0 ws i (itfPat a) (itfPat b) 0) r := by
  have hla : (itfPat a).length = 5 := by
    have : ∀ a : Fin 10, (itfPat a).length = 5 := by decide +kernel
    exact this ⟨a, ha⟩
  have hlb : (itfPat b).length = 5 := by
    have : ∀ a : Fin 10, (itfPat a).length = 5 := by decide +kernel
    exact this ⟨b, hb⟩
  suffices K : ∀ (d q : Nat), q + d = 5 → Ev (fun k => F.spec_ODItf.l1 k x0 (ws ++ inter ((itfPat a).take q) ((itfPat b).take q)) i (itfPat a) (itfPat b) q) r from by
    have := K 5 0 rfl
    simpa [inter] using this
  intro d
  induction d with
  | zero =>
    intro q hq
    obtain rfl : q = 5 := by omega
    rw [pat_take a ha, pat_take b hb]
    refine Ev.step (fun k => ?_) H
    rw [F.spec_ODItf.l1, if_neg (by omega)]
  | succ d ih =>
    intro q hq
    have hs := inter_step a b ha hb q (by omega)
    have hl := inter_len a b ha hb q (by omega)
    refine Ev.step (fun k => ?_) (ih (q + 1) (by omega))
    rw [F.spec_ODItf.l1, if_pos (by omega), if_pos (by omega), if_pos (by omega), if_pos (by omega)]
    simp only [Option.bind_some]
    rw [if_pos (by simp only [List.length_append, List.length_cons, List.length_nil]; omega), ← hs, show wrap64 ((q : Int) + 1) = ((q + 1 : Nat) : Int) by unfold wrap64; omega]
    simp

theorem itfWs_len : ∀ (ds : List Nat), (∀ d ∈ ds, d < 10) → (itfWs ds).length ≤ 5 * ds.length ∧ ∀ p ∈ itfWs ds, 0 ≤ p ∧ p ≤ 1000
  | [], _ => ⟨by simp [itfWs], by simp [itfWs]⟩
  | [a], _ => ⟨by simp [itfWs], by simp [itfWs]⟩
  | a :: b :: r, h => by
    have ha := h a (by simp)
    have hb := h b (by simp)
    obtain ⟨h1, h2⟩ := itfWs_len r (fun d hd => h d (by simp [hd]))
    have hl := inter_len a b ha hb 5 (by omega)
    rw [pat_take a ha, pat_take b hb] at hl
    have hp : ∀ p ∈ inter (itfPat a) (itfPat b), 0 ≤ p ∧ p ≤ 1000 := by
      have : ∀ (a b : Fin 10), ∀ p ∈ inter (itfPat a) (itfPat b), 0 ≤ p ∧ p ≤ 1000 := by decide +kernel
      exact this ⟨a, ha⟩ ⟨b, hb⟩
    refine ⟨by simp only [itfWs, List.length_append, List.length_cons]; omega, fun p hm => ?_⟩
    simp only [itfWs, List.mem_append] at hm
    exact hm.elim (hp p) (h2 p)
theorem itfWs_snoc : ∀ (k : Nat) (ds : List Nat) (h : 2 * k + 1 < ds.length), itfWs (ds.take (2 * k + 2)) = itfWs (ds.take (2 * k)) ++ inter (itfPat (ds.getD (2 * k) 0)) (itfPat (ds.getD (2 * k + 1) 0))
  | 0, a :: b :: r, h => by simp [itfWs]
  | k + 1, a :: b :: r, h => by
    have ih := itfWs_snoc k r (by simp at h; omega)
    have e1 : 2 * (k + 1) + 2 = (2 * k + 2) + 2 := by omega
    have e2 : 2 * (k + 1) = (2 * k) + 2 := by omega
    have e3 : 2 * (k + 1) + 1 = (2 * k + 1) + 2 := by omega
    rw [e1, e3, e2]
    simp only [List.take_succ_cons, itfWs, ih, List.append_assoc, List.getD_cons_succ]
theorem itf_spec (t : ByteArray) (ds : List Nat) (n : Nat) (h : IsDigits t ds) (hn : ds.length = 2 * n) (hn2 : n ≤ 40) : Ev (fun k => F.spec_ODItf.f k t) (itfCode ds) := by
  have hsz : t.size = 2 * n := by rw [← data_length, h.1]; simp [hn]
  have hlt := h.2
  suffices H : ∀ (d i : Nat), i + d = n → Ev (fun k => F.spec_ODItf.l0 k t ([1, 1, 1, 1] ++ itfWs (ds.take (2 * i))) ((2 * i : Nat) : Int)) (itfCode ds) from by
    have := H n 0 (by omega)
    exact this
  intro d
  induction d with
  | zero =>
    intro i hi
    obtain rfl : i = n := by omega
    rw [List.take_of_length_le (by omega)]
    obtain ⟨h1, h2⟩ := itf_bars ds hlt
    obtain ⟨h3, h4⟩ := itfWs_len ds hlt
    have hb := odBars ([1, 1, 1, 1] ++ itfWs ds ++ [3, 1, 1]) (fun p hp => by
      simp only [List.mem_append] at hp
      rcases hp with (hp | hp) | hp
      · revert p; decide
      · exact h4 p hp
      · revert p; decide) (by simp; omega)
    have e : bars true ([1, 1, 1, 1] ++ itfWs ds ++ [3, 1, 1]) = itfCode ds := by
      rw [bars_even _ _ (by simp only [List.length_append]; simp; omega), bars_even _ _ (by rfl), h2]
      rfl
    rw [e] at hb
    refine Ev.step (f := fun k => (F.spec_ODBars.f k ([1, 1, 1, 1] ++ itfWs ds ++ [3, 1, 1])).bind fun t => some t) (fun k => ?_) (hb.bind (Ev.now _))
    rw [F.spec_ODItf.l0, if_neg (by rw [show wrap64 (((2 * i : Nat) : Int) + 1) = 2 * i + 1 by unfold wrap64; omega, hsz]; omega)]
    simp only [Option.bind_some]
    rw [if_pos (by simp; omega)]
  | succ d ih =>
    intro i hi
    have h1 := ih (i + 1) (by omega)
    rw [show 2 * (i + 1) = 2 * i + 2 by omega, itfWs_snoc i ds (by omega), ← List.append_assoc] at h1
    obtain ⟨b1, l1⟩ := bt_dig h (2 * i) (by omega)
    obtain ⟨b2, l2⟩ := bt_dig h (2 * i + 1) (by omega)
    obtain ⟨w1, f1, g1⟩ := elem_itf _ l1
    obtain ⟨w2, f2, g2⟩ := elem_itf _ l2
    have hin := itf_in t ((2 * i : Nat) : Int) _ _ l1 l2 (itfCode ds) ([1, 1, 1, 1] ++ itfWs (ds.take (2 * i))) (by
      have := (itfWs_len (ds.take (2 * i)) (fun d hd => hlt d (List.mem_of_mem_take hd))).1
      simp only [List.length_append, List.length_take, List.length_cons, List.length_nil] at this ⊢
      omega) (by rw [show wrap64 (((2 * i : Nat) : Int) + 2) = ((2 * i + 2 : Nat) : Int) by unfold wrap64; omega]; exact h1)
    refine Ev.step (f := fun k => (F.spec_odElements.f k w1 5 3).bind fun a => (F.spec_odElements.f k w2 5 3).bind fun b => F.spec_ODItf.l1 k t ([1, 1, 1, 1] ++ itfWs (ds.take (2 * i))) ((2 * i : Nat) : Int) a b 0) (fun k => ?_) (Ev.bind g1 (Ev.bind g2 hin))
    rw [F.spec_ODItf.l0, show wrap64 (((2 * i : Nat) : Int) + 1) = ((2 * i + 1 : Nat) : Int) by unfold wrap64; omega, if_pos (by rw [hsz]; omega), if_pos (by omega), if_pos (by rw [hsz]; omega), b1, f1]
    simp only [Option.bind_some, if_pos (show (0 : Int) ≤ ((2 * i + 1 : Nat) : Int) by omega), b2, f2]
end Go.Proofs.YthkddnmomjcdaaaGreat.B
