import Derived.Test.YthkddnmomjcdaaaGreatL39
import Derived.Test.YthkddnmomjcdaaaGreatR
import Derived.Test.YthkddnmomjcdaaaGreatF28
namespace Go.Proofs.YthkddnmomjcdaaaGreat.B
open Go.RowKit Go.Proofs.YthkddnmomjcdaaaGreatW.PrintWords Go.Proofs.YthkddnmomjcdaaaGreatW.PrintLast Go.Proofs.YthkddnmomjcdaaaGreatW.PrintMore
set_option linter.unusedVariables false
set_option linter.unusedSimpArgs false

theorem odAt_run (s : ByteArray) (b : Int) (hs : s.size ≤ 1000) (n : Nat) (hn : n < s.size) (hf : ∀ i : Nat, i < n → bt s i ≠ b) (hb : bt s n = b) :
    ∀ (d i : Nat), i + d = n → Ev (fun k => F.spec_odAt.l0 k s b i) (n : Int) := by
  intro d
  induction d with
  | zero =>
    intro i hi
    obtain rfl : i = n := by omega
    refine Ev.step (f := fun _ => some (i : Int)) (fun k => ?_) (Ev.now _)
    rw [F.spec_odAt.l0, if_pos (by omega), if_pos (by omega), if_pos hb]
  | succ d ih =>
    intro i hi
    refine Ev.step (fun k => ?_) (ih (i + 1) (by omega))
    rw [F.spec_odAt.l0, if_pos (by omega), if_pos (by omega), if_neg (hf i (by omega)), show wrap64 ((i : Int) + 1) = ((i + 1 : Nat) : Int) by unfold wrap64; omega]
theorem odAt (s : ByteArray) (b : Int) (hs : s.size ≤ 1000) (n : Nat) (hn : n < s.size) (hf : ∀ i : Nat, i < n → bt s i ≠ b) (hb : bt s n = b) : Ev (fun k => F.spec_odAt.f k s b) (n : Int) := odAt_run s b hs n hn hf hb n 0 (by omega)
theorem bt_list (s : ByteArray) (i : Nat) (h : i < s.size) : bt s i = ((s.data.toList.getD i 0).toNat : Int) := by
  have hl : i < s.data.toList.length := by rw [data_length]; exact h
  rw [← bt_at s (i : Int) (by simpa using h), List.getD_eq_getElem?_getD, List.getElem?_eq_getElem hl]
  rfl
theorem odAt39 (n : Nat) (hn : n < 43) : Ev (fun k => F.spec_odAt.f k sg39 ((sg39.data.toList.getD n 0).toNat : Int)) (n : Int) := by
  refine odAt sg39 _ (by decide) n hn ?_ (bt_list sg39 n hn)
  intro i hi
  rw [bt_list sg39 i (by have : sg39.size = 43 := rfl; omega)]
  have : ∀ n : Fin 43, ∀ i : Fin 43, i.val < n.val → ((sg39.data.toList.getD i 0).toNat : Int) ≠ ((sg39.data.toList.getD n 0).toNat : Int) := by decide +kernel
  exact this ⟨n, hn⟩ ⟨i, by omega⟩ hi

def enc44 : List Int := enc39 ++ [148]
theorem elem39 (n : Nat) (hn : n < 44) : ∃ b, F.spec_od39Bits.f n = some b ∧ Ev (fun k => F.spec_odElements.f k b 9 2) (w9 (enc44.getD n 0)) := by
  have : ∀ n : Fin 44, F.spec_od39Bits.f (n : Nat) = some (enc44.getD n 0) ∧ F.spec_odElements.f 10 (enc44.getD n 0) 9 2 = some (w9 (enc44.getD n 0)) := by decide +kernel
  obtain ⟨h1, h2⟩ := this ⟨n, hn⟩
  exact ⟨_, h1, Ev.of (F.spec_odElements.mono _ _ _) h2⟩
theorem enc44_lt (n : Nat) (hn : n < 43) : enc44.getD n 0 = enc39.getD n 0 := by
  have : ∀ n : Fin 43, enc44.getD n 0 = enc39.getD n 0 := by decide +kernel
  exact this ⟨n, hn⟩

def ws39 (ns : List Nat) : List Int := w9 148 ++ ns.flatMap fun n => 1 :: w9 (enc39.getD n 0)
theorem ws39_bars : ∀ (ns : List Nat), (∀ n ∈ ns, n < 43) → (ws39 ns).length % 2 = 1 ∧ (ws39 ns).length = 9 + 10 * ns.length ∧ bars true (ws39 ns ++ [1]) = star39 ++ [false] ++ body39 ns := by
  intro ns h
  suffices H : ∀ k, k ≤ ns.length → (ws39 (ns.take k)).length % 2 = 1 ∧ (ws39 (ns.take k)).length = 9 + 10 * k ∧ bars true (ws39 (ns.take k) ++ [1]) = star39 ++ [false] ++ body39 (ns.take k) from by
    have := H ns.length (Nat.le_refl _)
    rwa [List.take_of_length_le (Nat.le_refl _)] at this
  intro k
  induction k with
  | zero => intro _; exact ⟨by simp [ws39, w9_length], by simp [ws39, w9_length], by rw [bars_append]; simp [ws39, w9_length, star39, body39, bars]⟩
  | succ k ih =>
    intro hk
    obtain ⟨h1, h2, h3⟩ := ih (by omega)
    rw [List.take_succ_eq_append_getElem (show k < ns.length by omega)]
    generalize hms : ns.take k = ms at *
    generalize ns[k] = n
    have e : ws39 (ms ++ [n]) = (ws39 ms ++ [1]) ++ w9 (enc39.getD n 0) := by simp [ws39]
    have hl : (ws39 (ms ++ [n])).length = 9 + 10 * (k + 1) := by rw [e]; simp [w9_length]; omega
    refine ⟨by omega, hl, ?_⟩
    rw [e, List.append_assoc, bars_even _ _ (by simp; omega), h3]
    have : bars true (w9 (enc39.getD n 0) ++ [1]) = chr39 n := by
      rw [bars_append, w9_length]
      rfl
    rw [this]
    simp [body39]
theorem ws39_pos (ns : List Nat) : ∀ p ∈ ws39 ns, 0 ≤ p ∧ p ≤ 1000 := by
  intro p hp
  simp only [ws39, List.mem_append, List.mem_flatMap, List.mem_cons] at hp
  rcases hp with hp | ⟨n, _, rfl | hp⟩
  · exact w9_pos _ p hp
  · omega
  · exact w9_pos _ p hp

theorem spec39 (t : ByteArray) (ns : List Nat) (n : Nat) (h : Is39 t ns) (hn : ns.length = n) (hn2 : n ≤ 80) : Ev (fun k => F.spec_OD39.f k t) (code39 ns) := by
  have hsz : t.size = n := by rw [← data_length, h.1]; simp [hn]
  have hws : ∀ i, (ws39 (ns.take i)).length ≤ 9 + 10 * 80 := fun i => by
    rw [(ws39_bars (ns.take i) (fun d hd => h.2 d (List.mem_of_mem_take hd))).2.1, List.length_take]; omega
  have hend : Ev (fun k => F.spec_OD39.l0 k t (ws39 ns ++ [1] ++ w9 148) ((n + 1 : Nat) : Int)) (code39 ns) := by
    obtain ⟨h1, h2, h3⟩ := ws39_bars ns h.2
    have e : bars true (ws39 ns ++ [1] ++ w9 148) = code39 ns := by
      rw [bars_even _ _ (by simp; omega), h3]
      rfl
    have hb := odBars (ws39 ns ++ [1] ++ w9 148) (fun p hp => by
      simp only [List.mem_append, List.mem_singleton] at hp
      rcases hp with (hp | rfl) | hp
      · exact ws39_pos ns p hp
      · omega
      · exact w9_pos _ p hp) (by simp [h2, w9_length]; omega)
    rw [e] at hb
    refine Ev.step (f := fun k => (F.spec_ODBars.f k (ws39 ns ++ [1] ++ w9 148)).bind fun t => some t) (fun k => ?_) (hb.bind (Ev.now _))
    rw [F.spec_OD39.l0, if_neg (by omega)]
  obtain ⟨bs, hbs, hes⟩ := elem39 43 (by omega)
  have e43 : enc44.getD 43 0 = 148 := rfl
  rw [e43] at hes
  have hmain : ∀ (d i : Nat), i + d = n → Ev (fun k => F.spec_OD39.l0 k t (ws39 (ns.take i)) (i : Int)) (code39 ns) := by
    intro d
    induction d with
    | zero =>
      intro i hi
      obtain rfl : i = n := by omega
      rw [List.take_of_length_le (by omega)]
      have hl := hws i
      rw [List.take_of_length_le (by omega)] at hl
      refine Ev.step (f := fun k => F.spec_OD39.j1 k t (ws39 ns) i 43 (decide ((i : Int) < (t.size : Int)))) (fun k => ?_) ?_
      · rw [F.spec_OD39.l0, if_pos (by omega), if_pos (by omega)]
      · rw [show decide ((i : Int) < (t.size : Int)) = false from decide_eq_false (by omega)]
        refine Ev.step (f := fun k => F.spec_OD39.j2 k t (ws39 ns) i 43) (fun k => ?_) ?_
        · rw [F.spec_OD39.j1, if_neg (by simp)]
        · refine Ev.step (f := fun k => (F.spec_odElements.f k bs 9 2).bind fun e => if (ws39 ns ++ [1]).length + e.length < 17592186044416 then F.spec_OD39.l0 k t (ws39 ns ++ [1] ++ e) ((i + 1 : Nat) : Int) else none) (fun k => ?_) (Ev.bind hes ?_)
          · rw [F.spec_OD39.j2, if_pos (by omega), if_pos (by omega), show wrap64 ((i : Int) + 1) = ((i + 1 : Nat) : Int) by unfold wrap64; omega]
            simp only [Option.bind_some]
            rw [show (43 : Int) = ((43 : Nat) : Int) from rfl, hbs]
            rfl
          · refine Ev.congr (fun k => ?_) hend
            rw [if_pos (by simp only [List.length_append, List.length_singleton, w9_length]; omega)]
    | succ d ih =>
      intro i hi
      obtain ⟨c, hc, hcn, hcl, hct⟩ := is39_get h i (by omega)
      obtain ⟨b, hb, he⟩ := elem39 c (by omega)
      rw [enc44_lt c hc] at he
      have hbt : bt t i = ((sg39.data.toList.getD c 0).toNat : Int) := by
        rw [← hct, ← bt_at t (i : Int) (by simp; omega)]
        rfl
      have hl := hws i
      have e1 : ws39 (ns.take (i + 1)) = ws39 (ns.take i) ++ [1] ++ w9 (enc39.getD c 0) := by
        have : ns[i]'hcl = c := by rw [← hcn, List.getD_eq_getElem?_getD, List.getElem?_eq_getElem hcl]; rfl
        unfold ws39
        rw [List.take_succ_eq_append_getElem hcl, List.flatMap_append, this]
        simp
      have h1 := ih (i + 1) (by omega)
      rw [e1] at h1
      refine Ev.step (f := fun k => F.spec_OD39.j1 k t (ws39 (ns.take i)) i 43 (decide ((i : Int) < (t.size : Int)))) (fun k => ?_) ?_
      · rw [F.spec_OD39.l0, if_pos (by omega), if_pos (by omega)]
      · rw [show decide ((i : Int) < (t.size : Int)) = true from decide_eq_true (by omega)]
        refine Ev.step (f := fun k => (F.spec_odAt.f k sg39 ((sg39.data.toList.getD c 0).toNat : Int)).bind fun q => F.spec_OD39.j2 k t (ws39 (ns.take i)) i q) (fun k => ?_) (Ev.bind (odAt39 c hc) ?_)
        · rw [F.spec_OD39.j1, if_pos rfl, if_pos (by omega), if_pos (by omega), hbt]
          rfl
        · refine Ev.step (f := fun k => (F.spec_odElements.f k b 9 2).bind fun e => if (ws39 (ns.take i) ++ [1]).length + e.length < 17592186044416 then F.spec_OD39.l0 k t (ws39 (ns.take i) ++ [1] ++ e) ((i + 1 : Nat) : Int) else none) (fun k => ?_) (Ev.bind he ?_)
          · rw [F.spec_OD39.j2, if_pos (by omega), if_pos (by omega), show wrap64 ((i : Int) + 1) = ((i + 1 : Nat) : Int) by unfold wrap64; omega]
            simp only [Option.bind_some, hb]
          · refine Ev.congr (fun k => ?_) h1
            rw [if_pos (by simp only [List.length_append, List.length_singleton, w9_length]; omega)]
  have h0 := hmain n 0 (by omega)
  have e0 : ws39 (ns.take 0) = [] ++ w9 148 := by simp [ws39]
  rw [e0] at h0
  refine Ev.congr (g := fun k => F.spec_OD39.f k t) (f := fun k => F.spec_OD39.l0 k t [] (-1)) (fun k => rfl) ?_
  refine Ev.step (f := fun k => F.spec_OD39.j1 k t [] (-1) 43 false) (fun k => ?_) ?_
  · rw [F.spec_OD39.l0, if_pos (by omega), if_neg (by omega)]
  · refine Ev.step (f := fun k => F.spec_OD39.j2 k t [] (-1) 43) (fun k => ?_) ?_
    · rw [F.spec_OD39.j1, if_neg (by simp)]
    · refine Ev.step (f := fun k => (F.spec_odElements.f k bs 9 2).bind fun e => if ([] : List Int).length + e.length < 17592186044416 then F.spec_OD39.l0 k t ([] ++ e) ((0 : Nat) : Int) else none) (fun k => ?_) (Ev.bind hes ?_)
      · rw [F.spec_OD39.j2, if_neg (by omega), show wrap64 ((-1 : Int) + 1) = ((0 : Nat) : Int) by unfold wrap64; omega]
        rw [show (43 : Int) = ((43 : Nat) : Int) from rfl, hbs]
        rfl
      · refine Ev.congr (fun k => ?_) h0
        rw [if_pos (by simp [w9_length])]
end Go.Proofs.YthkddnmomjcdaaaGreat.B
