import Derived.Test.YthkddnmomjcdaaaGreatLbar
import Derived.Test.YthkddnmomjcdaaaGreatR
import Derived.Test.YthkddnmomjcdaaaGreatU
import Derived.Test.YthkddnmomjcdaaaGreatF21
namespace Go.Proofs.YthkddnmomjcdaaaGreat.B
open Go.RowKit Go.Proofs.YthkddnmomjcdaaaGreatW.PrintWords Go.Proofs.YthkddnmomjcdaaaGreatW.PrintLast Go.Proofs.YthkddnmomjcdaaaGreatW.PrintMore
set_option linter.unusedVariables false
set_option linter.unusedSimpArgs false

theorem odAtB_run (s : ByteArray) (b : Int) (hs : s.size ≤ 1000) (n : Nat) (hn : n < s.size) (hf : ∀ i : Nat, i < n → bt s i ≠ b) (hb : bt s n = b) :
    ∀ (d i : Nat), i + d = n → Ev (fun k => F.spec_odAt.l0 k s b i) (n : Int) := by
  intro d
  induction d with
  | zero =>
    intro i hi
    obtain rfl : i = n := by omega
    refine Ev.step (f := fun _ => some (i : Int)) (fun k => ?_) (Ev.now _)
    rw [F.spec_odAt.l0, if_pos (by omega), if_pos (by omega), if_pos hb]
  | succ d ih =>
    intro i hi
    refine Ev.step (fun k => ?_) (ih (i + 1) (by omega))
    rw [F.spec_odAt.l0, if_pos (by omega), if_pos (by omega), if_neg (hf i (by omega)), show wrap64 ((i : Int) + 1) = ((i + 1 : Nat) : Int) by unfold wrap64; omega]
theorem odAtB (s : ByteArray) (b : Int) (hs : s.size ≤ 1000) (n : Nat) (hn : n < s.size) (hf : ∀ i : Nat, i < n → bt s i ≠ b) (hb : bt s n = b) : Ev (fun k => F.spec_odAt.f k s b) (n : Int) := odAtB_run s b hs n hn hf hb n 0 (by omega)
theorem bt_listB (s : ByteArray) (i : Nat) (h : i < s.size) : bt s i = ((s.data.toList.getD i 0).toNat : Int) := by
  have hl : i < s.data.toList.length := by rw [data_length]; exact h
  rw [← bt_at s (i : Int) (by simpa using h), List.getD_eq_getElem?_getD, List.getElem?_eq_getElem hl]
  rfl
theorem odAtBar (n : Nat) (hn : n < 20) : Ev (fun k => F.spec_odAt.f k sgB (sB n)) (n : Int) := by
  refine odAtB sgB _ (by decide) n hn ?_ (bt_listB sgB n hn)
  intro i hi
  rw [bt_listB sgB i (by have : sgB.size = 20 := rfl; omega)]
  exact fun h => by have := sB_inj i n (by omega) hn h; omega
theorem elemBar (n : Nat) (hn : n < 20) : ∃ b, F.spec_odBarBits.f n = some b ∧ Ev (fun k => F.spec_odElements.f k b 7 2) (w7 (encB.getD n 0)) := by
  have : ∀ n : Fin 20, F.spec_odBarBits.f (n : Nat) = some (encB.getD n 0) ∧ F.spec_odElements.f 10 (encB.getD n 0) 7 2 = some (w7 (encB.getD n 0)) := by decide +kernel
  obtain ⟨h1, h2⟩ := this ⟨n, hn⟩
  exact ⟨_, h1, Ev.of (F.spec_odElements.mono _ _ _) h2⟩
theorem w7_length (a : Int) : (w7 a).length = 7 := by simp [w7]
theorem w7_pos (a : Int) : ∀ p ∈ w7 a, 0 ≤ p ∧ p ≤ 1000 := by
  intro p hp
  simp only [w7, List.mem_map] at hp
  obtain ⟨i, _, rfl⟩ := hp
  unfold w7at; split <;> omega
def pre7 (ns : List Nat) : List Int := ns.flatMap fun n => w7 (encB.getD n 0) ++ [1]
theorem pre7_length (ns : List Nat) : (pre7 ns).length = 8 * ns.length := by
  induction ns with
  | nil => rfl
  | cons n r ih =>
    unfold pre7 at ih ⊢
    rw [List.flatMap_cons, List.length_append, ih, List.length_append, w7_length]
    simp; omega
theorem pre7_pos (ns : List Nat) : ∀ p ∈ pre7 ns, 0 ≤ p ∧ p ≤ 1000 := by
  intro p hp
  simp only [pre7, List.mem_append, List.mem_flatMap, List.mem_singleton] at hp
  rcases hp with ⟨n, _, hp | rfl⟩
  · exact w7_pos _ p hp
  · omega
theorem pre7_bars (ns : List Nat) (m : List Int) : bars true (pre7 ns ++ m) = preB ns ++ bars true m := by
  rw [bars_even _ _ (by rw [pre7_length]; omega)]
  congr 1
  induction ns with
  | nil => rfl
  | cons n r ih =>
    have e : pre7 (n :: r) = (w7 (encB.getD n 0) ++ [1]) ++ pre7 r := rfl
    rw [e, bars_even _ _ (by rw [List.length_append, w7_length]; rfl), ih, bars_append, w7_length]
    rfl
def wB (ns : List Nat) (i : Nat) : List Int := if i = 0 then [] else pre7 (ns.take (i - 1)) ++ w7 (encB.getD (ns.getD (i - 1) 0) 0)
theorem wB_length (ns : List Nat) (i : Nat) (h : i ≤ 80) : (wB ns i).length ≤ 8 * 80 := by
  unfold wB
  split
  · simp
  · rw [List.length_append, pre7_length, w7_length, List.length_take]; omega
theorem wB_next (ns : List Nat) (i : Nat) (h0 : 0 < i) (h : i < ns.length) : wB ns (i + 1) = wB ns i ++ [1] ++ w7 (encB.getD (ns.getD i 0) 0) := by
  unfold wB
  rw [if_neg (by omega), if_neg (by omega)]
  have : i + 1 - 1 = (i - 1) + 1 := by omega
  rw [show i + 1 - 1 = i by omega]
  congr 1
  have e : ns.take i = ns.take (i - 1) ++ [ns.getD (i - 1) 0] := by
    have h2 := List.take_succ_eq_append_getElem (l := ns) (i := i - 1) (by omega)
    rw [show i - 1 + 1 = i by omega] at h2
    rw [h2, List.getD_eq_getElem?_getD, List.getElem?_eq_getElem (by omega)]
    rfl
  rw [e]
  unfold pre7
  rw [List.flatMap_append]
  simp
theorem specBar (t : ByteArray) (ns : List Nat) (n : Nat) (h : IsBar t ns n) (hn2 : n ≤ 80) : Ev (fun k => F.spec_ODBar.f k t) (codeB ns) := by
  have hl := h.len
  have h2 := h.two
  have hsz : t.size = n := by rw [← data_length, h.text]; simp [hl]
  have hend : Ev (fun k => F.spec_ODBar.l0 k t (wB ns n) (n : Int)) (codeB ns) := by
    have e : bars true (wB ns n) = codeB ns := by
      unfold wB codeB
      rw [if_neg (by omega), pre7_bars, hl]
      rfl
    have hb := odBars (wB ns n) (fun p hp => by
      unfold wB at hp
      rw [if_neg (by omega)] at hp
      rcases List.mem_append.1 hp with hp | hp
      · exact pre7_pos _ p hp
      · exact w7_pos _ p hp) (by have := wB_length ns n (by omega); omega)
    rw [e] at hb
    refine Ev.step (f := fun k => (F.spec_ODBars.f k (wB ns n)).bind fun t => some t) (fun k => ?_) (hb.bind (Ev.now _))
    rw [F.spec_ODBar.l0, if_neg (by omega)]
  have hmain : ∀ (d i : Nat), i + d = n → Ev (fun k => F.spec_ODBar.l0 k t (wB ns i) (i : Int)) (codeB ns) := by
    intro d
    induction d with
    | zero =>
      intro i hi
      obtain rfl : i = n := by omega
      exact hend
    | succ d ih =>
      intro i hi
      obtain ⟨hbt, hil⟩ := h.get i (by omega)
      obtain ⟨c, hc⟩ : ∃ c, ns.getD i 0 = c := ⟨_, rfl⟩
      have hc20 := h.lt i (by omega)
      rw [hc] at hbt hc20
      obtain ⟨b, hb, he⟩ := elemBar c hc20
      have hbt : bt t i = sB c := by
        rw [← hbt, ← bt_at t (i : Int) (by simp; omega)]
        rfl
      have hlw := wB_length ns i (by omega)
      have h1 := ih (i + 1) (by omega)
      by_cases h0 : i = 0
      · subst h0
        have e1 : wB ns (0 + 1) = wB ns 0 ++ w7 (encB.getD c 0) := by
          unfold wB
          rw [if_neg (by omega), if_pos rfl, ← hc]
          rfl
        rw [e1] at h1
        refine Ev.step (f := fun k => (F.spec_odAt.f k sgB (sB c)).bind fun q => (F.spec_odBarBits.f q).bind fun b => (F.spec_odElements.f k b 7 2).bind fun e => if (wB ns 0).length + e.length < 17592186044416 then F.spec_ODBar.l0 k t (wB ns 0 ++ e) ((0 + 1 : Nat) : Int) else none) (fun k => ?_) (Ev.bind (odAtBar c hc20) ?_)
        · rw [F.spec_ODBar.l0, if_pos (by omega), if_neg (by omega), if_pos (by omega), hbt, show wrap64 (((0 : Nat) : Int) + 1) = ((0 + 1 : Nat) : Int) by unfold wrap64; omega]
          rfl
        · refine Ev.congr (f := fun k => (F.spec_odElements.f k b 7 2).bind fun e => if (wB ns 0).length + e.length < 17592186044416 then F.spec_ODBar.l0 k t (wB ns 0 ++ e) ((0 + 1 : Nat) : Int) else none) (fun k => ?_) (Ev.bind he ?_)
          · rw [hb]; rfl
          · refine Ev.congr (fun k => ?_) h1
            rw [if_pos (by rw [w7_length]; omega)]
      · have e1 := wB_next ns i (Nat.pos_of_ne_zero h0) hil
        rw [hc] at e1
        rw [e1] at h1
        refine Ev.step (f := fun k => (F.spec_odAt.f k sgB (sB c)).bind fun q => (F.spec_odBarBits.f q).bind fun b => (F.spec_odElements.f k b 7 2).bind fun e => if (wB ns i ++ [1]).length + e.length < 17592186044416 then F.spec_ODBar.l0 k t (wB ns i ++ [1] ++ e) ((i + 1 : Nat) : Int) else none) (fun k => ?_) (Ev.bind (odAtBar c hc20) ?_)
        · rw [F.spec_ODBar.l0, if_pos (by omega), if_pos (by omega), if_pos (by omega), hbt, show wrap64 ((i : Int) + 1) = ((i + 1 : Nat) : Int) by unfold wrap64; omega]
          simp only [Option.bind_some]
          rw [if_pos (by omega)]
          rfl
        · refine Ev.congr (f := fun k => (F.spec_odElements.f k b 7 2).bind fun e => if (wB ns i ++ [1]).length + e.length < 17592186044416 then F.spec_ODBar.l0 k t (wB ns i ++ [1] ++ e) ((i + 1 : Nat) : Int) else none) (fun k => ?_) (Ev.bind he ?_)
          · rw [hb]; rfl
          · refine Ev.congr (fun k => ?_) h1
            rw [if_pos (by rw [w7_length, List.length_append]; simp; omega)]
  exact hmain n 0 (by omega)

end Go.Proofs.YthkddnmomjcdaaaGreat.B
