import Derived.Test.YthkddnmomjcdaaaGreatH
import Derived.Laws.Runes
import Derived.Test.YthkddnmomjcdaaaGreatF63
import Derived.Test.YthkddnmomjcdaaaGreatV
import Derived.Test.YthkddnmomjcdaaaGreatG
import Derived.Test.YthkddnmomjcdaaaGreatF163
import Derived.Test.YthkddnmomjcdaaaGreatF164
import Derived.Test.YthkddnmomjcdaaaGreatF165
import Derived.Test.YthkddnmomjcdaaaGreatF66
import Derived.Test.YthkddnmomjcdaaaGreatF68
import Derived.Test.YthkddnmomjcdaaaGreatF42
import Derived.Test.YthkddnmomjcdaaaGreatF43
namespace Go.Proofs.YthkddnmomjcdaaaGreat.B
open Go.RowKit Go.Proofs.YthkddnmomjcdaaaGreatW.PrintWords Go.Proofs.YthkddnmomjcdaaaGreatW.PrintLast Go.Proofs.YthkddnmomjcdaaaGreatW.PrintMore
set_option linter.unusedVariables false
set_option linter.unusedSimpArgs false

/-! ### The check digit -/
theorem newFExc (w : World) (v : Value) :
    Calls Tryz.prog 166 #[v] w fun e w' => e = .returned (.iface 198 (.agg #[.string ⟨#[70, 111, 114, 109, 97, 116, 69, 120, 99, 101, 112, 116, 105, 111, 110]⟩, .nilIface])) ∧ Below w.heap.size w w' := by
  go_enter Tryz.func166, Tryz.ntmps166
  go_wp2_with (go_at_call 100; refine (newExc _ _ _).mono ?_; rintro e w' ⟨rfl, hb⟩)
  go_ret
  exact ⟨rfl, hb⟩
theorem methFE (W : World) : Sem.run Tryz.prog (method 315 198 (.agg #[.string ⟨#[70, 111, 114, 109, 97, 116, 69, 120, 99, 101, 112, 116, 105, 111, 110]⟩, .nilIface]) "Error") W = .ok (184, .agg #[.string ⟨#[70, 111, 114, 109, 97, 116, 69, 120, 99, 101, 112, 116, 105, 111, 110]⟩, .nilIface]) W := by kernel_rfl
theorem errFE (w : World) (s : ByteArray) : Calls Tryz.prog 184 #[.agg #[.string s, .nilIface]] w fun e w' => e = .returned (.string s) ∧ Below w.heap.size w w' := by
  go_enter Tryz.func184, Tryz.ntmps184
  go_wp2
  go_ret
  exact ⟨rfl, below_alloc (Below.refl _ _) _⟩

/-- The digits of a text, as the code takes them: each byte less 48. -/
def dgt (s : ByteArray) (i : Nat) : Int := (bt s i - 48) % 256
/-- The sum of j digits from place p on to the left, each second one. -/
def legs (s : ByteArray) (p : Int) : Nat → Int
  | 0 => 0
  | j + 1 => legs s p j + dgt s (p - 2 * j).toNat
theorem legs_le (s : ByteArray) (p : Int) (j : Nat) (h : ∀ t < j, dgt s (p - 2 * t).toNat ≤ 9) : 0 ≤ legs s p j ∧ legs s p j ≤ 9 * j := by
  induction j with
  | zero => simp [legs]
  | succ j ih =>
    have h1 := ih (fun t ht => h t (by omega))
    have h2 := h j (by omega)
    have h3 : 0 ≤ dgt s (p - 2 * j).toNat := by unfold dgt; omega
    simp only [legs]
    omega
/-- The check digit of the first n bytes. -/
def chk (s : ByteArray) (n : Nat) : Int := (1000 - (3 * legs s (n - 1) ((n + 1) / 2) + legs s (n - 2) (n / 2))) % 10
def AllDig (s : ByteArray) (n : Nat) : Prop := ∀ i, i < n → dgt s i ≤ 9
def CkPost (s : ByteArray) (n : Nat) (e : Ending) : Prop :=
  (AllDig s n ∧ e = .returned (.tuple #[.int .i64 (chk s n), .nilIface])) ∨ (¬ AllDig s n ∧ e = .returned (.tuple #[.int .i64 0, .iface 198 (.agg #[.string ⟨#[70, 111, 114, 109, 97, 116, 69, 120, 99, 101, 112, 116, 105, 111, 110]⟩, .nilIface])]))

theorem bt_get (s : ByteArray) (i : Nat) (h : i < s.size) : ((s[i]'h).toNat : Int) = bt s (i : Int) := by
  rw [← bt_at s (i : Int) (by simpa using h)]
  rfl
set_option maxHeartbeats 2000000 in
set_option maxRecDepth 100000 in
theorem ck160 (w : World) (s : ByteArray) (n : Nat) (hn : s.size = n) (hm : n ≤ 40) :
    Calls Tryz.prog 160 #[.string s] w fun e w' => CkPost s n e ∧ Below w.heap.size w w' := by
  have hsI : (s.size : Int) = (n : Int) := by omega
  have HN := Aside0.mk hn
  clear hn
  go_enter Tryz.func160, Tryz.ntmps160
  go_wp2_with fail
  go_loopw [5, 6] (fun sv v wr => ∃ (j : Nat) (i sm : Int), 2 * j ≤ n + 1 ∧ sv = .int .i64 sm ∧ v = .int .i64 i ∧ -2 ≤ i ∧ i < n ∧ 0 ≤ sm ∧ sm ≤ 1000 ∧ Aside0 (i = n - 1 - 2 * j) ∧ Aside0 (sm = legs s (n - 1) j) ∧ Aside0 (∀ t < j, dgt s (((n : Int) - 1) - 2 * t).toNat ≤ 9) ∧ Aside0 (Below w.heap.size w wr)) (fun _ v _ => (intOf v + 2).toNat)
  case atStart => exact ⟨0, n - 1, 0, by omega, rfl, rfl, by omega, by omega, by omega, by omega, ⟨by omega⟩, ⟨rfl⟩, ⟨by omega⟩, ⟨Below.refl _ _⟩⟩
  case round =>
    obtain ⟨j, i, sm, hj, rfl, rfl, hi0, hi1, hs0, hs1, HI, HSM, HD, HB⟩ := hrel
    by_cases hge : 0 ≤ i
    · have d1 : decide (i ≥ 0) = true := decide_eq_true hge
      have hit : i.toNat < s.size := by have := HN.out; omega
      obtain ⟨b, hb⟩ : ∃ b : Int, ((s[i.toNat]'hit).toNat : Int) = b := ⟨_, rfl⟩
      have hb0 : 0 ≤ b ∧ b < 256 := by have := (s[i.toNat]'hit).toNat_lt; omega
      have hbd : dgt s i.toNat = (b - 48) % 256 := by unfold dgt; rw [← bt_get s i.toNat hit, hb]
      have HBD := Aside0.mk hbd
      clear hbd
      obtain ⟨hb0, hb1⟩ := hb0
      have e0 : decide ((b - 48) % 256 < 0) = false := decide_eq_false (by omega)
      by_cases h9 : (9 : Int) < (b - 48) % 256
      · have e1 : decide ((9 : Int) < (b - 48) % 256) = true := decide_eq_true h9
        go_wp2_with (go_at_call 166; refine (newFExc _ _).mono ?_; rintro e w' ⟨rfl, hbx⟩)
        go_ret2
        refine ⟨Or.inr ⟨fun hall => ?_, rfl⟩, HB.out.trans ((below_alloc (Below.refl _ _) _).trans (hbx.mono (by simp)) |>.mono HB.out.size)⟩
        have := hall i.toNat (by omega)
        rw [HBD.out] at this
        omega
      · have e1 : decide ((9 : Int) < (b - 48) % 256) = false := decide_eq_false h9
        have hl := legs_le s ((n : Int) - 1) j HD.out
        have hle : sm ≤ 9 * j := by rw [HSM.out]; exact hl.2
        have h48 : (b - 48) % 256 = b - 48 := by omega
        have H48 := Aside0.mk h48
        clear hl h48
        go_wp2
        go_roundw
        case rel => exact ⟨j + 1, i - 2, sm + (b - 48), by have := HI.out; omega, rfl, rfl, by omega, by omega, by omega, by omega, ⟨by have := HI.out; omega⟩, ⟨by rw [legs, ← HSM.out, ← HI.out, HBD.out, H48.out]⟩, ⟨by
          intro t ht
          by_cases h : t = j
          · subst h; rw [← HI.out, HBD.out]; omega
          · exact HD.out t (by omega)⟩, HB⟩
        case measure => simp [intOf]; omega
    · have d1 : decide (i ≥ 0) = false := decide_eq_false hge
      have hjj : j = (n + 1) / 2 := by have := HI.out; omega
      have hle : sm ≤ 9 * j := by rw [HSM.out]; exact (legs_le s ((n : Int) - 1) j HD.out).2
      have HSM1 := Aside0.mk (show sm = legs s ((n : Int) - 1) ((n + 1) / 2) by rw [← hjj]; exact HSM.out)
      have HD1 := Aside0.mk (show ∀ t < (n + 1) / 2, dgt s (((n : Int) - 1) - 2 * t).toNat ≤ 9 by rw [← hjj]; exact HD.out)
      have hsm1 : sm ≤ 200 := by omega
      clear hjj hle HI HSM HD hi0 hi1 hj hs1
      go_wp2
      clear d1 hge
      go_loopw [5, 8] (fun sv v wr => ∃ (j : Nat) (i s2 : Int), 2 * j ≤ n ∧ sv = .int .i64 s2 ∧ v = .int .i64 i ∧ -2 ≤ i ∧ i < n ∧ 0 ≤ s2 ∧ s2 ≤ 1000 ∧ Aside0 (i = n - 2 - 2 * j) ∧ Aside0 (s2 = 3 * sm + legs s (n - 2) j) ∧ Aside0 (∀ t < j, dgt s (((n : Int) - 2) - 2 * t).toNat ≤ 9) ∧ Aside0 (Below w.heap.size w wr)) (fun _ v _ => (intOf v + 2).toNat)
      case atStart => exact ⟨0, n - 2, sm * 3, by omega, rfl, rfl, by omega, by omega, by omega, by omega, ⟨by omega⟩, ⟨by simp [legs]; omega⟩, ⟨by omega⟩, HB⟩
      case round =>
        clear HB
        obtain ⟨j, i, s2, hj, rfl, rfl, hi0, hi1, hs20, hs21, HI, HSM, HD, HB⟩ := hrel
        by_cases hge : 0 ≤ i
        · have d1 : decide (i ≥ 0) = true := decide_eq_true hge
          have hit : i.toNat < s.size := by have := HN.out; omega
          obtain ⟨b, hb⟩ : ∃ b : Int, ((s[i.toNat]'hit).toNat : Int) = b := ⟨_, rfl⟩
          have hb0 : 0 ≤ b ∧ b < 256 := by have := (s[i.toNat]'hit).toNat_lt; omega
          have hbd : dgt s i.toNat = (b - 48) % 256 := by unfold dgt; rw [← bt_get s i.toNat hit, hb]
          have HBD := Aside0.mk hbd
          clear hbd
          obtain ⟨hb0, hb1⟩ := hb0
          have e0 : decide ((b - 48) % 256 < 0) = false := decide_eq_false (by omega)
          by_cases h9 : (9 : Int) < (b - 48) % 256
          · have e1 : decide ((9 : Int) < (b - 48) % 256) = true := decide_eq_true h9
            go_wp2_with (go_at_call 166; refine (newFExc _ _).mono ?_; rintro e w' ⟨rfl, hbx⟩)
            go_ret2
            refine ⟨Or.inr ⟨fun hall => ?_, rfl⟩, HB.out.trans ((below_alloc (Below.refl _ _) _).trans (hbx.mono (by simp)) |>.mono HB.out.size)⟩
            have := hall i.toNat (by omega)
            rw [HBD.out] at this
            omega
          · have e1 : decide ((9 : Int) < (b - 48) % 256) = false := decide_eq_false h9
            have hl := legs_le s ((n : Int) - 2) j HD.out
            have hle : s2 ≤ 3 * sm + 9 * j := by have := hl.2; rw [HSM.out]; omega
            have h48 : (b - 48) % 256 = b - 48 := by omega
            have H48 := Aside0.mk h48
            clear hl h48
            go_wp2
            go_roundw
            case rel => exact ⟨j + 1, i - 2, s2 + (b - 48), by have := HI.out; omega, rfl, rfl, by omega, by omega, by omega, by omega, ⟨by have := HI.out; omega⟩, ⟨by rw [legs, ← HI.out, HBD.out, H48.out]; have := HSM.out; omega⟩, ⟨by
              intro t ht
              by_cases h : t = j
              · subst h; rw [← HI.out, HBD.out]; omega
              · exact HD.out t (by omega)⟩, HB⟩
            case measure => simp [intOf]; omega
        · have d1 : decide (i ≥ 0) = false := decide_eq_false hge
          have hjj : j = n / 2 := by have := HI.out; omega
          have HSM2 := Aside0.mk (show s2 = 3 * sm + legs s ((n : Int) - 2) (n / 2) by rw [← hjj]; exact HSM.out)
          have HD2 := Aside0.mk (show ∀ t < n / 2, dgt s (((n : Int) - 2) - 2 * t).toNat ≤ 9 by rw [← hjj]; exact HD.out)
          clear hjj HI HSM HD
          go_wp2
          go_ret2
          refine ⟨Or.inl ⟨fun i hi => ?_, ?_⟩, HB.out⟩
          · rcases Nat.mod_two_eq_zero_or_one (n - 1 - i) with h | h
            · have := HD1.out ((n - 1 - i) / 2) (by omega)
              rwa [show ((n : Int) - 1 - 2 * ((n - 1 - i) / 2 : Nat)).toNat = i by omega] at this
            · have := HD2.out ((n - 2 - i) / 2) (by omega)
              rwa [show ((n : Int) - 2 - 2 * ((n - 2 - i) / 2 : Nat)).toNat = i by omega] at this
          · have : chk s n = (1000 - s2) % 10 := by unfold chk; rw [← HSM1.out, ← HSM2.out]
            rw [this]
            rfl

/-- The reference's sum over the last i digits. -/
def odSum (s : ByteArray) (n : Nat) : Nat → Int
  | 0 => 0
  | i + 1 => odSum s n i + (if i % 2 = 0 then 3 * dgt s (n - 1 - i) else dgt s (n - 1 - i))
theorem odSum_legs (s : ByteArray) (n : Nat) : ∀ j, (2 * j ≤ n → odSum s n (2 * j) = 3 * legs s (n - 1) j + legs s (n - 2) j) ∧ (2 * j + 1 ≤ n → odSum s n (2 * j + 1) = 3 * legs s (n - 1) (j + 1) + legs s (n - 2) j) := by
  intro j
  induction j with
  | zero =>
    refine ⟨fun _ => rfl, fun h => ?_⟩
    simp only [odSum, legs]
    rw [show ((n : Int) - 1 - 2 * ((0 : Nat) : Int)).toNat = n - 1 - 0 by omega]
    simp
  | succ j ih =>
    have h1 : 2 * (j + 1) ≤ n → odSum s n (2 * (j + 1)) = 3 * legs s (n - 1) (j + 1) + legs s (n - 2) (j + 1) := by
      intro h
      have := ih.2 (by omega)
      rw [show 2 * (j + 1) = (2 * j + 1) + 1 by omega, odSum, this, if_neg (by omega)]
      conv => rhs; rw [legs.eq_2 s ((n : Int) - 2) j]
      rw [show ((n : Int) - 2 - 2 * (j : Int)).toNat = n - 1 - (2 * j + 1) by omega]
      omega
    refine ⟨h1, fun h => ?_⟩
    rw [odSum, h1 (by omega), if_pos (by omega)]
    conv => rhs; rw [legs.eq_2 s ((n : Int) - 1) (j + 1)]
    rw [show ((n : Int) - 1 - 2 * ((j + 1 : Nat) : Int)).toNat = n - 1 - 2 * (j + 1) by omega]
    omega
theorem odSum_all (s : ByteArray) (n : Nat) : odSum s n n = 3 * legs s (n - 1) ((n + 1) / 2) + legs s (n - 2) (n / 2) := by
  rcases Nat.mod_two_eq_zero_or_one n with h | h
  · have := (odSum_legs s n (n / 2)).1 (by omega)
    rw [show 2 * (n / 2) = n by omega] at this
    rw [this, show (n + 1) / 2 = n / 2 by omega]
  · have := (odSum_legs s n (n / 2)).2 (by omega)
    rw [show 2 * (n / 2) + 1 = n by omega] at this
    rw [this, show (n + 1) / 2 = n / 2 + 1 by omega]
theorem odSum_le (s : ByteArray) (n : Nat) (hd : AllDig s n) (i : Nat) (hi : i ≤ n) : 0 ≤ odSum s n i ∧ odSum s n i ≤ 27 * i := by
  induction i with
  | zero => simp [odSum]
  | succ i ih =>
    have h1 := ih (by omega)
    have h2 := hd (n - 1 - i) (by omega)
    have h3 : 0 ≤ dgt s (n - 1 - i) := by unfold dgt; omega
    simp only [odSum]
    split <;> omega
theorem odSum_chk (s : ByteArray) (n : Nat) (hn : n ≤ 30) (hd : AllDig s n) : (10 - odSum s n n % 10) % 10 = chk s n := by
  have := odSum_le s n hd n (Nat.le_refl _)
  unfold chk
  rw [← odSum_all]
  omega
theorem chk_range (s : ByteArray) (n : Nat) : 0 ≤ chk s n ∧ chk s n ≤ 9 := by unfold chk; omega
theorem conv_rune (b : Int) (h0 : 0 ≤ b) (h : b < 128) (w : World) : (Go.convert 21 9 (.int .i32 b)).run Tryz.prog w = .ok (.string ⟨#[UInt8.ofNat b.toNat]⟩) w := by
  rw [run_convert_int_string w 21 9 .i32 _ (by kernel_rfl) Tryz.underlying9]
  have hv : Utf8.valid b = true := by unfold Utf8.valid; simp; omega
  have : Utf8.encode b = ⟨#[UInt8.ofNat b.toNat]⟩ := by
    unfold Utf8.encode
    rw [if_pos hv]
    simp only
    rw [if_pos (by omega)]
  rw [this]

set_option maxHeartbeats 2000000 in
set_option maxRecDepth 100000 in
theorem ck64 (w : World) (s : ByteArray) (n : Nat) (hn : s.size = n) (hm : n ≤ 30) (hd : AllDig s n) :
    Calls Tryz.prog 64 #[.string s] w fun e w' => e = .returned (.string ⟨#[UInt8.ofNat (48 + chk s n).toNat]⟩) ∧ Below w.heap.size w w' := by
  have hsI : (s.size : Int) = (n : Int) := by omega
  have HN := Aside0.mk hn
  have HD := Aside0.mk hd
  clear hn hd
  go_enter Tryz.func64, Tryz.ntmps64
  go_wp2_with fail
  go_loopw [3, 8] (fun sv v wr => ∃ (i : Nat) (sm : Int), i ≤ n ∧ sv = .int .i64 sm ∧ v = .int .i64 i ∧ 0 ≤ sm ∧ sm ≤ 27 * i ∧ Aside0 (sm = odSum s n i) ∧ Aside0 (Below w.heap.size w wr)) (fun _ v _ => n - (intOf v).toNat)
  case atStart => exact ⟨0, 0, by omega, rfl, rfl, by omega, by omega, ⟨rfl⟩, ⟨Below.refl _ _⟩⟩
  case round =>
    obtain ⟨i, sm, hi, rfl, rfl, hs0, hs1, HS, HB⟩ := hrel
    by_cases hlt : i < n
    · have hit : n - 1 - i < s.size := by have := HN.out; omega
      obtain ⟨b, hb⟩ : ∃ b : Int, ((s[n - 1 - i]'hit).toNat : Int) = b := ⟨_, rfl⟩
      have hbd : dgt s (n - 1 - i) = (b - 48) % 256 := by
        unfold dgt
        rw [← bt_get s (n - 1 - i) hit, ← hb]
      have hd9 := HD.out (n - 1 - i) (by omega)
      have hb0 : 0 ≤ b ∧ b < 256 := by have := (s[n - 1 - i]'hit).toNat_lt; omega
      have hb48 : 48 ≤ b ∧ b ≤ 57 := by rw [hbd] at hd9; omega
      have hbd' : dgt s (n - 1 - i) = b - 48 := by rw [hbd]; omega
      have HBD := Aside0.mk hbd'
      obtain ⟨hb1, hb2⟩ := hb48
      clear hbd hbd' hd9 hb0
      by_cases h2 : (i : Int) % 2 = 0
      · have e2 : (((i : Int) % 2) == 0) = true := beq_iff_eq.2 h2
        have H2 := Aside0.mk h2
        clear h2
        go_wp2
        go_roundw
        case rel => exact ⟨i + 1, sm + (b - 48) * 3, by omega, rfl, by go_num, by omega, by omega, ⟨by rw [odSum, if_pos (by have := H2.out; omega), HBD.out, ← HS.out]; omega⟩, HB⟩
        case measure => simp [intOf]; omega
      · have e2 : (((i : Int) % 2) == 0) = false := beq_eq_false_iff_ne.2 h2
        have H2 := Aside0.mk h2
        clear h2
        go_wp2
        go_roundw
        case rel => exact ⟨i + 1, sm + (b - 48), by omega, rfl, by go_num, by omega, by omega, ⟨by rw [odSum, if_neg (by have := H2.out; omega), HBD.out, ← HS.out]⟩, HB⟩
        case measure => simp [intOf]; omega
    · obtain rfl : i = n := by omega
      have hc := odSum_chk s i hm HD.out
      rw [← HS.out] at hc
      have hr := chk_range s i
      obtain ⟨C, hC⟩ : ∃ C, chk s i = C := ⟨_, rfl⟩
      rw [hC] at hc hr
      obtain ⟨hr0, hr1⟩ := hr
      have hcr := fun W => conv_rune (48 + C) (by omega) (by omega) W
      have HC := Aside0.mk hC
      clear hC
      go_wp2
      go_ret
      exact ⟨by rw [HC.out]; rfl, HB.out⟩

theorem dgt_ok (s : ByteArray) (i : Nat) : dgt s i ≤ 9 ↔ ¬ (bt s i < 48 ∨ 57 < bt s i) := by
  have := bt_range s i
  unfold dgt
  omega
theorem odDigits_run (s : ByteArray) (m : Nat) (hm : m ≤ 100) (hs : s.size = m) (r : Bool) (hr : r = true ↔ AllDig s m) : ∀ (d i : Nat), i + d = m → AllDig s i → Ev (fun k => F.spec_ODDigits.l0 k s m i) r := by
  intro d
  induction d with
  | zero =>
    intro i hi ha
    obtain rfl : i = m := by omega
    rw [hr.2 ha]
    refine Ev.step (f := fun _ => some true) (fun k => ?_) (Ev.now _)
    rw [F.spec_ODDigits.l0, if_neg (by omega)]
  | succ d ih =>
    intro i hi ha
    by_cases h : dgt s i ≤ 9
    · refine Ev.step (fun k => ?_) (ih (i + 1) (by omega) (fun j hj => by
        by_cases e : j = i
        · subst e; exact h
        · exact ha j (by omega)))
      have := (dgt_ok s i).1 h
      rw [F.spec_ODDigits.l0, if_pos (by omega), if_pos (by omega), if_pos (by omega), if_neg (by omega), if_neg (by omega), show wrap64 ((i : Int) + 1) = ((i + 1 : Nat) : Int) by unfold wrap64; omega]
    · have : r = false := by
        cases r with
        | false => rfl
        | true => exact absurd (hr.1 rfl i (by omega)) h
      rw [this]
      have h2 : bt s i < 48 ∨ 57 < bt s i := by
        rcases Classical.em (bt s i < 48 ∨ 57 < bt s i) with h3 | h3
        · exact h3
        · exact absurd ((dgt_ok s i).2 h3) h
      refine Ev.step (f := fun _ => some false) (fun k => ?_) (Ev.now _)
      rw [F.spec_ODDigits.l0, if_pos (by omega), if_pos (by omega), if_pos (by omega)]
      by_cases h4 : bt s i < 48
      · rw [if_pos h4]
      · rw [if_neg h4, if_pos (by omega)]
theorem digs63 (w : World) (s : ByteArray) (m : Nat) (mi : Int) (hmi : (m : Int) = mi) (hm : m ≤ 100) (r : Bool) (hr : r = true ↔ (s.size = m ∧ AllDig s m)) :
    Calls Tryz.prog 63 #[.string s, .int .i64 mi] w fun e w' => e = .returned (.bool r) ∧ Drawn0 w w' := by
  subst hmi
  by_cases hs : s.size = m
  · obtain ⟨k, hk⟩ := (odDigits_run s m hm hs r (by rw [hr]; simp [hs]) m 0 (by omega) (by intro j hj; omega)).rounds
    exact F.spec_ODDigits.calls k s m r w (by unfold F.spec_ODDigits.f; rw [if_pos (by omega)]; exact hk)
  · have : r = false := by
      cases r with
      | false => rfl
      | true => exact absurd (hr.1 rfl).1 hs
    subst this
    exact F.spec_ODDigits.calls 0 s m false w (by unfold F.spec_ODDigits.f; rw [if_neg (by omega)])

theorem bt_extract (s : ByteArray) (m i : Nat) (hm : m ≤ s.size) (hi : i < m) : bt (s.extract 0 m) i = bt s i := by
  have h1 : i < (s.extract 0 m).size := by rw [ByteArray.size_extract]; omega
  rw [← bt_get _ _ h1, ← bt_get s i (by omega)]
  congr 2
  simp [ByteArray.getElem_extract]
theorem dgt_extract (s : ByteArray) (m i : Nat) (hm : m ≤ s.size) (hi : i < m) : dgt (s.extract 0 m) i = dgt s i := by
  unfold dgt; rw [bt_extract s m i hm hi]
theorem legs_extract (s : ByteArray) (m : Nat) (hm : m ≤ s.size) (p : Int) (hp : p < m) (j : Nat) (hj : 2 * ((j : Int) - 1) ≤ p) : legs (s.extract 0 m) p j = legs s p j := by
  induction j with
  | zero => rfl
  | succ j ih =>
    simp only [legs]
    rw [ih (by omega), dgt_extract s m _ hm (by omega)]
theorem chk_extract (s : ByteArray) (m : Nat) (hm : m ≤ s.size) : chk (s.extract 0 m) m = chk s m := by
  unfold chk
  rw [legs_extract s m hm _ (by omega) _ (by omega), legs_extract s m hm _ (by omega) _ (by omega)]
theorem allDig_extract (s : ByteArray) (m : Nat) (hm : m ≤ s.size) : AllDig (s.extract 0 m) m ↔ AllDig s m := by
  unfold AllDig
  constructor
  · intro h i hi; rw [← dgt_extract s m i hm hi]; exact h i hi
  · intro h i hi; rw [dgt_extract s m i hm hi]; exact h i hi
def ckText (s : ByteArray) (m : Nat) : ByteArray := s.extract 0 m ++ ⟨#[UInt8.ofNat (48 + chk s m).toNat]⟩

theorem eq_last (s : ByteArray) (m : Nat) (h : s.size = m + 1) (hd : dgt s m ≤ 9) : ((s.extract m s.size).toList == (⟨#[UInt8.ofNat (48 + chk s m).toNat]⟩ : ByteArray).toList) = decide (dgt s m = chk s m) := by
  have hms : m < s.size := by omega
  have hl : m < s.data.toList.length := by rw [data_length]; exact hms
  have hr := chk_range s m
  have hb := (dgt_ok s m).1 hd
  have hbr := bt_range s m
  have hg := bt_get s m hms
  have e1 : (s.extract m s.size).toList = [s[m]'hms] := by
    rw [ba_toList, Lib.extract_data, show s.size - m = 1 by omega, List.drop_eq_getElem_cons hl]
    rfl
  have e2 : (⟨#[UInt8.ofNat (48 + chk s m).toNat]⟩ : ByteArray).toList = [UInt8.ofNat (48 + chk s m).toNat] := by rw [ba_toList]
  rw [e1, e2, Bool.eq_iff_iff, beq_iff_eq, decide_eq_true_iff, List.cons.injEq, and_iff_left rfl, ← UInt8.toNat_inj]
  have e3 : (UInt8.ofNat (48 + chk s m).toNat).toNat = (48 + chk s m).toNat := by
    show (48 + chk s m).toNat % 256 = _
    omega
  rw [e3]
  unfold dgt
  omega
theorem utf_lt (c : Int) (h0 : 0 ≤ c) (h : c ≤ 9) : (UInt8.ofNat (48 + c).toNat).toNat = (48 + c).toNat := by
  show (48 + c).toNat % 256 = _
  omega

/-! ### A digit as a text -/
def alpha36 : ByteArray := ⟨#[48, 49, 50, 51, 52, 53, 54, 55, 56, 57, 97, 98, 99, 100, 101, 102, 103, 104, 105, 106, 107, 108, 109, 110, 111, 112, 113, 114, 115, 116, 117, 118, 119, 120, 121, 122]⟩
theorem alpha_digit (c : Nat) (h : c ≤ 9) : alpha36.extract c (c + 1) = ⟨#[UInt8.ofNat (48 + c)]⟩ := by
  have : ∀ c : Fin 10, (alpha36.extract c.val (c.val + 1)).data.toList = [UInt8.ofNat (48 + c.val)] := by decide +kernel
  have h1 := this ⟨c, by omega⟩
  have h2 : (alpha36.extract c (c + 1)).data = #[UInt8.ofNat (48 + c)] := Array.toList_inj.1 h1
  cases hx : alpha36.extract c (c + 1) with
  | mk d => rw [hx] at h2; exact congrArg ByteArray.mk h2
set_option maxHeartbeats 2000000 in
set_option maxRecDepth 100000 in
theorem small121 (w : World) (c : Nat) (h : c ≤ 9) (r : ByteArray) (hr : alpha36.extract c (c + 1) = r) : Calls Tryz.prog 121 #[.int .i64 c] w fun e w' => e = .returned (.string r) ∧ Below w.heap.size w w' := by
  have d1 : decide ((c : Int) < 10) = true := decide_eq_true (by omega)
  have hrun : ∀ W : World, (Instr.slice 9 (.string ⟨#[48, 49, 50, 51, 52, 53, 54, 55, 56, 57, 97, 98, 99, 100, 101, 102, 103, 104, 105, 106, 107, 108, 109, 110, 111, 112, 113, 114, 115, 116, 117, 118, 119, 120, 121, 122]⟩) (some (.int .i64 (c : Int))) (some (.int .i64 ((c : Int) + 1))) none).run Tryz.prog W = .ok (.string r) W := by
    intro W
    have h1 := run_slice_string (P := Tryz.prog) W 9 alpha36 .i64 .i64 (c : Int) ((c : Int) + 1) Tryz.underlying9 (by omega) (by omega) (by have : alpha36.size = 36 := rfl; omega)
    rw [show ((c : Int)).toNat = c by omega, show ((c : Int) + 1).toNat = c + 1 by omega, hr] at h1
    exact h1
  clear hr
  go_enter Tryz.func121, Tryz.ntmps121
  go_wp2
  go_ret
  exact ⟨rfl, Below.refl _ _⟩
set_option maxHeartbeats 2000000 in
set_option maxRecDepth 100000 in
theorem fmt120 (w : World) (c : Nat) (h : c ≤ 9) (r : ByteArray) (hr : alpha36.extract c (c + 1) = r) : Calls Tryz.prog 120 #[.int .i64 c, .int .i64 10] w fun e w' => e = .returned (.string r) ∧ Below w.heap.size w w' := by
  have d1 : decide ((0 : Int) ≤ (c : Int)) = true := decide_eq_true (by omega)
  have d2 : decide ((c : Int) < 100) = true := decide_eq_true (by omega)
  go_enter Tryz.func120, Tryz.ntmps120
  go_wp2_with fail
  try go_quiet (fail)
  try go_wp2_with fail
  refine (small121 _ c h r hr).mono ?_
  rintro e w1 ⟨rfl, hb⟩
  have HB := Aside0.mk hb
  clear hb
  go_wp2
  go_ret
  exact ⟨rfl, HB.out⟩
theorem itoa119 (w : World) (c : Nat) (h : c ≤ 9) (r : ByteArray) (hr : alpha36.extract c (c + 1) = r) : Calls Tryz.prog 119 #[.int .i64 c] w fun e w' => e = .returned (.string r) ∧ Below w.heap.size w w' := by
  go_enter Tryz.func119, Tryz.ntmps119
  go_wp2_with (go_at_call 120; refine (fmt120 _ c h r hr).mono ?_; rintro e w' ⟨rfl, hb⟩)
  go_ret
  exact ⟨rfl, hb⟩
theorem itoa116 (w : World) (c : Nat) (h : c ≤ 9) (r : ByteArray) (hr : alpha36.extract c (c + 1) = r) : Calls Tryz.prog 116 #[.int .i64 c] w fun e w' => e = .returned (.string r) ∧ Below w.heap.size w w' := by
  go_enter Tryz.func116, Tryz.ntmps116
  go_wp2_with (go_at_call 119; refine (itoa119 _ c h r hr).mono ?_; rintro e w' ⟨rfl, hb⟩)
  go_ret
  exact ⟨rfl, hb⟩
/-- The same for the check digit. -/
theorem itoaCk (w : World) (s : ByteArray) (n : Nat) : Calls Tryz.prog 116 #[.int .i64 (chk s n)] w fun e w' => e = .returned (.string ⟨#[UInt8.ofNat (48 + chk s n).toNat]⟩) ∧ Below w.heap.size w w' := by
  have hr := chk_range s n
  obtain ⟨c, hc⟩ : ∃ c : Nat, chk s n = c := ⟨(chk s n).toNat, by omega⟩
  rw [hc] at hr ⊢
  rw [show ((48 : Int) + (c : Int)).toNat = 48 + c by omega]
  exact itoa116 w c (by omega) _ (alpha_digit c (by omega))
set_option maxHeartbeats 2000000 in
set_option maxRecDepth 100000 in
theorem ck161 (w : World) (s : ByteArray) (m : Nat) (hs : s.size = m + 1) (hm : m ≤ 30) :
    Calls Tryz.prog 161 #[.string s] w fun e w' => ((AllDig s m ∧ e = .returned (.tuple #[.bool (decide (dgt s m = chk s m)), .nilIface])) ∨ (¬ AllDig s m ∧ e = .returned (.tuple #[.bool false, .iface 198 (.agg #[.string ⟨#[70, 111, 114, 109, 97, 116, 69, 120, 99, 101, 112, 116, 105, 111, 110]⟩, .nilIface])]))) ∧ Below w.heap.size w w' := by
  have hsI : (s.size : Int) = (m : Int) + 1 := by omega
  have hz : ((m : Int) + 1 == 0) = false := beq_eq_false_iff_ne.2 (by omega)
  have hit : m < s.size := by omega
  obtain ⟨b, hb⟩ : ∃ b : Int, ((s[m]'hit).toNat : Int) = b := ⟨_, rfl⟩
  have hbd : dgt s m = (b - 48) % 256 := by unfold dgt; rw [← bt_get s m hit, hb]
  have HBD := Aside0.mk hbd
  have hb0 : 0 ≤ b ∧ b < 256 := by have := (s[m]'hit).toNat_lt; omega
  obtain ⟨hb0, hb1⟩ := hb0
  have HS := Aside0.mk hs
  clear hs hbd
  go_enter Tryz.func161, Tryz.ntmps161
  go_wp2_with fail
  refine (ck160 _ (s.extract 0 m) m (by rw [ByteArray.size_extract]; have := HS.out; omega) (by omega)).mono ?_
  rintro e w1 ⟨hp, hb1⟩
  have HP := Aside0.mk hp
  have HB1 := Aside0.mk hb1
  clear hp hb1
  rcases HP.out with ⟨hp, rfl⟩ | ⟨hp, rfl⟩
  · have hpa := (allDig_extract s m (by have := HS.out; omega)).1 hp
    have hck := chk_extract s m (by have := HS.out; omega)
    obtain ⟨C, hC⟩ : ∃ C, chk s m = C := ⟨_, rfl⟩
    rw [hck, hC]
    have HC := Aside0.mk hC
    have HA := Aside0.mk hpa
    clear hp hpa hck hC HP
    go_wp2
    go_ret2
    have e : (C == (b - 48) % 256) = decide ((b - 48) % 256 = C) := by rw [Bool.eq_iff_iff, beq_iff_eq, decide_eq_true_iff]; exact eq_comm
    refine ⟨Or.inl ⟨HA.out, ?_⟩, HB1.out⟩
    rw [HBD.out, HC.out, ← e]
    rfl
  · have hpa : ¬ AllDig s m := fun h => hp ((allDig_extract s m (by have := HS.out; omega)).2 h)
    have HA := Aside0.mk hpa
    clear hp hpa HP
    go_wp2
    go_ret2
    exact ⟨Or.inr ⟨HA.out, rfl⟩, HB1.out⟩

/-! ### The patterns of EAN -/
def lpats : List (List Int) := [[3, 2, 1, 1], [2, 2, 2, 1], [2, 1, 2, 2], [1, 4, 1, 1], [1, 1, 3, 2], [1, 2, 3, 1], [1, 1, 1, 4], [1, 3, 1, 2], [1, 2, 1, 3], [3, 1, 1, 2]]
def lp (d : Int) : List Int := lpats.getD d.toNat []
theorem lp_facts (d : Int) (h0 : 0 ≤ d) (h : d ≤ 9) : (lp d).length = 4 ∧ (∀ p ∈ lp d, 0 ≤ p ∧ p ≤ 1000) ∧ ∀ c, (bars c (lp d)).length = 7 := by
  have : ∀ m : Fin 10, (lpats.getD m.val []).length = 4 ∧ (∀ p ∈ lpats.getD m.val [], 0 ≤ p ∧ p ≤ 1000) ∧ ∀ c, (bars c (lpats.getD m.val [])).length = 7 := by decide +kernel
  exact this ⟨d.toNat, by omega⟩
theorem pat163 (w : World) : Calls Tryz.prog 163 #[] w fun e w' => ∃ A c, e = .returned (.slice A 3 c) ∧ 3 ≤ c ∧ Kd.C (Kd.int .i64) w' A 3 [1, 1, 1] ∧ Below w.heap.size w w' := by
  refine (F.oned_UPCEANReader_START_END_PATTERN.calls [1, 1, 1] w rfl).mono ?_
  rintro e w' ⟨v, rfl, hn, hb⟩
  obtain ⟨A, c, rfl, hcc, hc⟩ := Kd.R_reads hn
  exact ⟨A, c, rfl, hcc, hc, hb⟩
theorem pat165 (w : World) : Calls Tryz.prog 165 #[] w fun e w' => ∃ A c, e = .returned (.slice A 5 c) ∧ 5 ≤ c ∧ Kd.C (Kd.int .i64) w' A 5 [1, 1, 1, 1, 1] ∧ Below w.heap.size w w' := by
  refine (F.oned_UPCEANReader_MIDDLE_PATTERN.calls [1, 1, 1, 1, 1] w rfl).mono ?_
  rintro e w' ⟨v, rfl, hn, hb⟩
  obtain ⟨A, c, rfl, hcc, hc⟩ := Kd.R_reads hn
  exact ⟨A, c, rfl, hcc, hc, hb⟩
theorem pats164 (w : World) (d : Int) (h0 : 0 ≤ d) (h9 : d ≤ 9) : Calls Tryz.prog 164 #[] w fun e w' => ∃ ad c A c2, e = .returned (.slice (some ad) 10 c) ∧ w'.cell? (ad.add d.toNat) = some (.slice A 4 c2) ∧ 4 ≤ c2 ∧ Kd.C (Kd.int .i64) w' A 4 (lp d) ∧ Below w.heap.size w w' := by
  refine (F.oned_UPCEANReader_L_PATTERNS.calls lpats w rfl).mono ?_
  rintro e w' ⟨v, rfl, hn, hb⟩
  obtain ⟨A, c, rfl, _, hc⟩ := Kd.N_reads hn
  obtain ⟨ad, A0, c0, rfl, h1, h2, h3⟩ := F.at_L5 hc d h0 (by show d < ((10 : Nat) : Int); omega)
  have hl : (F.rd_L5 lpats d).length = 4 := (lp_facts d h0 h9).1
  rw [hl] at h1 h2 h3
  exact ⟨ad, c, A0, c0, rfl, h1, h2, h3, hb⟩
/-- Digits by their patterns. -/
def digs_ (t : ByteArray) (p : Nat) (c : Bool) (n : Nat) : List Bool := (List.range n).flatMap fun k => bars c (lp (dgt t (p + k)))
theorem digs_length (t : ByteArray) (p : Nat) (c : Bool) (n : Nat) (h : ∀ k < n, dgt t (p + k) ≤ 9) : (digs_ t p c n).length = 7 * n := by
  induction n with
  | zero => rfl
  | succ n ih =>
    have h1 := ih (fun k hk => h k (by omega))
    unfold digs_ at h1 ⊢
    rw [List.range_succ, List.flatMap_append, List.length_append, h1]
    have h0 : 0 ≤ dgt t (p + n) := by unfold dgt; omega
    simp only [List.flatMap_cons, List.flatMap_nil, List.append_nil]
    rw [(lp_facts _ h0 (h n (by omega))).2.2 c]
    omega
theorem digs_next (t : ByteArray) (p : Nat) (c : Bool) (n : Nat) : digs_ t p c (n + 1) = digs_ t p c n ++ bars c (lp (dgt t (p + n))) := by
  unfold digs_
  rw [List.range_succ, List.flatMap_append]
  simp
theorem dgt_at (t : ByteArray) (n : Nat) (ht : t.size = n) (hd : AllDig t n) (i : Nat) (hi : i < n) (h : i < t.size) : ∃ b : Int, ((t[i]'h).toNat : Int) = b ∧ 48 ≤ b ∧ b ≤ 57 ∧ dgt t i = b - 48 := by
  have h1 := hd i hi
  have h2 := (dgt_ok t i).1 h1
  refine ⟨_, rfl, ?_⟩
  rw [bt_get t i h]
  refine ⟨by omega, by omega, ?_⟩
  unfold dgt
  omega
theorem isDig_all (t : ByteArray) (n : Nat) (ht : t.size = n) (hd : AllDig t n) : ∀ i (hi : i < t.size), isDig (t[i]'hi) := by
  intro i hi
  obtain ⟨b, hb, h1, h2, _⟩ := dgt_at t n ht hd i (by omega) hi
  unfold isDig
  omega
theorem own_all (s : ByteArray) (m : Nat) (h : s.size = m) : s.extract 0 m = s := by
  have : (s.extract 0 m).data = s.data := by
    subst h
    simp
  cases hx : s.extract 0 m with
  | mk d => rw [hx] at this; cases s; simpa using this
theorem ckText_size (s : ByteArray) (m : Nat) (h : m ≤ s.size) : (ckText s m).size = m + 1 := by
  unfold ckText
  rw [ByteArray.size_append, ByteArray.size_extract]
  have : (⟨#[UInt8.ofNat (48 + chk s m).toNat]⟩ : ByteArray).size = 1 := rfl
  omega
theorem bt_gd (s : ByteArray) (i : Nat) (h : i < s.size) : bt s i = ((s.data.toList.getD i 0).toNat : Int) := by
  have hl : i < s.data.toList.length := by rw [data_length]; exact h
  rw [← bt_at s (i : Int) (by simpa using h), List.getD_eq_getElem?_getD, List.getElem?_eq_getElem hl]
  rfl
theorem ckText_data (s : ByteArray) (m : Nat) : (ckText s m).data.toList = (s.extract 0 m).data.toList ++ [UInt8.ofNat (48 + chk s m).toNat] := by
  unfold ckText
  rw [ba_append]
theorem ckText_dgt (s : ByteArray) (m i : Nat) (h : m ≤ s.size) (hi : i < m) : dgt (ckText s m) i = dgt s i := by
  have h1 : i < (ckText s m).size := by rw [ckText_size s m h]; omega
  have h2 : i < (s.extract 0 m).size := by rw [ByteArray.size_extract]; omega
  have h3 : i < (s.extract 0 m).data.toList.length := by rw [data_length]; exact h2
  rw [← dgt_extract s m i h hi]
  unfold dgt
  rw [bt_gd _ i h1, bt_gd _ i h2, ckText_data, List.getD_eq_getElem?_getD, List.getD_eq_getElem?_getD, List.getElem?_append_left h3]
theorem ckText_last (s : ByteArray) (m : Nat) (h : m ≤ s.size) : dgt (ckText s m) m = chk s m := by
  have h1 : m < (ckText s m).size := by rw [ckText_size s m h]; omega
  have hr := chk_range s m
  have hs : (s.extract 0 m).data.toList.length = m := by rw [data_length, ByteArray.size_extract]; omega
  have e : bt (ckText s m) m = 48 + chk s m := by
    rw [bt_gd _ m h1, ckText_data, List.getD_eq_getElem?_getD, List.getElem?_append_right (by omega), hs, Nat.sub_self]
    show ((UInt8.ofNat (48 + chk s m).toNat).toNat : Int) = _
    rw [utf_lt _ hr.1 hr.2]
    omega
  unfold dgt
  rw [e]
  omega
theorem ckText_all (s : ByteArray) (m : Nat) (h : m ≤ s.size) (hd : AllDig s m) : AllDig (ckText s m) (m + 1) := by
  intro i hi
  by_cases e : i = m
  · subst e; rw [ckText_last s i h]; exact (chk_range s i).2
  · rw [ckText_dgt s m i h (by omega)]; exact hd i (by omega)

/-! ### The reference's bars of EAN -/
def bF (s : ByteArray) : Nat → Nat → Bool → List Bool
  | _, 0, _ => []
  | i, d + 1, c => List.replicate ((bt s i - 48) % 256).toNat c ++ bF s (i + 1) d (!c)
theorem ob_run (s : ByteArray) (n : Nat) (hn : s.size = n) (hm : n ≤ 100) : ∀ (d i : Nat) (l : List Bool) (c : Bool), i + d = n → l.length + 256 * d ≤ 1000000 → Ev (fun k => F.spec_odBars.l0 k l s c n i) (l ++ bF s i d c) := by
  intro d
  induction d with
  | zero =>
    intro i l c hi hl
    refine Ev.step (f := fun _ => some l) (fun k => ?_) ?_
    · rw [F.spec_odBars.l0, if_neg (by omega)]
    · simpa [bF] using Ev.now l
  | succ d ih =>
    intro i l c hi hl
    obtain ⟨m, hm2⟩ : ∃ m : Nat, (bt s i - 48) % 256 = m := ⟨((bt s i - 48) % 256).toNat, by omega⟩
    have hm3 : m < 256 := by omega
    refine Ev.step (f := fun k => F.spec_odBars.l1 k l s c n i m ((0 : Nat) : Int)) (fun k => ?_) ?_
    · rw [F.spec_odBars.l0, if_pos (by omega), if_pos (by omega), if_pos (by omega), hm2]
      rfl
    · suffices H : ∀ (e j : Nat) (zs : List Bool), j + e = m → zs.length + e + 256 * d ≤ 1000000 → zs ++ List.replicate e c = l ++ List.replicate m c → Ev (fun k => F.spec_odBars.l1 k zs s c n i m (j : Int)) (l ++ bF s i (d + 1) c) from
        H m 0 l (by omega) (by omega) rfl
      intro e
      induction e with
      | zero =>
        intro j zs hj hz hzz
        have h1 := ih (i + 1) zs (!c) (by omega) (by omega)
        refine Ev.step (f := fun k => F.spec_odBars.l0 k zs s (!c) n ((i + 1 : Nat) : Int)) (fun k => ?_) ?_
        · rw [F.spec_odBars.l1, if_neg (by omega), show wrap64 ((i : Int) + 1) = ((i + 1 : Nat) : Int) by unfold wrap64; omega]
        · simp only [List.replicate_zero, List.append_nil] at hzz
          have e2 : l ++ bF s i (d + 1) c = zs ++ bF s (i + 1) d (!c) := by
            simp only [bF, hm2, Int.toNat_natCast, ← List.append_assoc, hzz]
          rw [e2]
          exact h1
      | succ e ihe =>
        intro j zs hj hz hzz
        refine Ev.step (f := fun k => F.spec_odBars.l1 k (zs ++ [c]) s c n i m ((j + 1 : Nat) : Int)) (fun k => ?_) (ihe (j + 1) (zs ++ [c]) (by omega) (by simp; omega) (by rw [← hzz]; simp [List.replicate_succ]))
        rw [F.spec_odBars.l1, if_pos (by omega), if_pos (by omega), show ((j : Int) + 1) % 256 = ((j + 1 : Nat) : Int) by omega]
theorem odBarsE (s : ByteArray) (l : List Bool) (c : Bool) (hm : s.size ≤ 100) (hl : l.length ≤ 900000) : Ev (fun k => F.spec_odBars.f k l s c) (l ++ bF s 0 s.size c) :=
  ob_run s s.size rfl hm s.size 0 l c (by omega) (by omega)
/-- odBars with a row of one's own. -/
theorem bars66 (w0 w : World) (v : Value) (s : ByteArray) (l : List Bool) (c : Bool) (bs : List Bool) (hbs : bF s 0 s.size c = bs) (hm : s.size ≤ 100) (hl : l.length ≤ 900000) (hB : Below w0.heap.size w0 w) (hr : Kd.R Kd.bool 4 w w0.heap.size (fun _ => True) v l) :
    Calls Tryz.prog 66 #[v, .string s, .bool c] w fun e w' => ∃ v', e = .returned v' ∧ Kd.R Kd.bool 4 w' w0.heap.size (fun _ => True) v' (l ++ bs) ∧ Below w0.heap.size w0 w' := by
  subst hbs
  obtain ⟨k, hk⟩ := (odBarsE s l c hm hl).rounds
  refine (F.spec_odBars.calls k (fun _ => True) v l s c _ w0 w hB hr hk).mono ?_
  rintro e w' ⟨v', rfl, h1, h2, _⟩
  exact ⟨v', rfl, Kd.R_mono h1 (fun _ _ => trivial), h2⟩
def dW (m : Nat) : ByteArray := [(⟨#[51, 50, 49, 49]⟩ : ByteArray), ⟨#[50, 50, 50, 49]⟩, ⟨#[50, 49, 50, 50]⟩, ⟨#[49, 52, 49, 49]⟩, ⟨#[49, 49, 51, 50]⟩, ⟨#[49, 50, 51, 49]⟩, ⟨#[49, 49, 49, 52]⟩, ⟨#[49, 51, 49, 50]⟩, ⟨#[49, 50, 49, 51]⟩, ⟨#[51, 49, 49, 50]⟩].getD m ⟨#[]⟩
theorem dW_facts (m : Nat) (h : m < 10) : F.spec_odWidths.f (48 + (m : Int)) = some (dW m) ∧ (dW m).size = 4 ∧ ∀ c, bF (dW m) 0 4 c = bars c (lp m) := by
  have : ∀ m : Fin 10, F.spec_odWidths.f (48 + ((m.val : Nat) : Int)) = some (dW m.val) ∧ (dW m.val).size = 4 ∧ ∀ c, bF (dW m.val) 0 4 c = bars c (lp (m.val : Nat)) := by decide +kernel
  exact this ⟨m, h⟩
/-- odDigit by the sets A and C. -/
theorem dig68 (w0 w : World) (v : Value) (l : List Bool) (b set : Int) (c : Bool) (hs : (set = 65 ∧ c = false) ∨ (set = 67 ∧ c = true)) (h0 : 48 ≤ b) (h9 : b ≤ 57) (hl : l.length ≤ 900000) (hB : Below w0.heap.size w0 w) (hr : Kd.R Kd.bool 4 w w0.heap.size (fun _ => True) v l) :
    Calls Tryz.prog 68 #[v, .int .u8 b, .int .u8 set] w fun e w' => ∃ v', e = .returned v' ∧ Kd.R Kd.bool 4 w' w0.heap.size (fun _ => True) v' (l ++ bars c (lp (b - 48))) ∧ Below w0.heap.size w0 w' := by
  obtain ⟨m, hm⟩ : ∃ m : Nat, b = 48 + (m : Int) := ⟨(b - 48).toNat, by omega⟩
  have hm10 : m < 10 := by omega
  subst hm
  obtain ⟨h1, h2, h3⟩ := dW_facts m hm10
  have he := odBarsE (dW m) l c (by omega) hl
  rw [h2, h3 c] at he
  have hd : Ev (fun k => F.spec_odDigit.f k l (48 + (m : Int)) set) (l ++ bars c (lp m)) := by
    refine Ev.congr (f := fun k => (F.spec_odBars.f k l (dW m) c).bind fun t => some t) (fun k => ?_) (he.bind (Ev.now _))
    unfold F.spec_odDigit.f
    rw [h1]
    rcases hs with ⟨rfl, rfl⟩ | ⟨rfl, rfl⟩ <;> rfl
  obtain ⟨k, hk⟩ := hd.rounds
  refine (F.spec_odDigit.calls k (fun _ => True) v l _ set _ w0 w hB hr hk).mono ?_
  rintro e w' ⟨v', rfl, h1, h2, _⟩
  refine ⟨v', rfl, ?_, h2⟩
  rw [show (48 + (m : Int)) - 48 = m by omega]
  exact Kd.R_mono h1 (fun _ _ => trivial)

/-! ### A row of its own width, trimmed -/
theorem row_plain (code : List Bool) (h : code.length ≤ 1000) : rowOf code 0 20 = List.replicate 10 false ++ (code ++ List.replicate 10 false) := by
  have e1 : rOut code 0 20 = (code.length : Int) + 20 := by unfold rOut rFull; rw [if_neg (by omega)]
  have e2 : rMany code 0 20 = 1 := by unfold rMany rFull; rw [e1]; exact Int.ediv_self (by omega)
  have e3 : rLeft code 0 20 = 10 := by unfold rLeft; rw [e1, e2]; omega
  unfold rowOf rowList
  rw [e1, e2, e3]
  apply List.ext_getElem
  · simp; omega
  · intro i h1 h2
    simp only [List.getElem_map, List.getElem_range]
    unfold rowAt
    simp only [List.length_map, List.length_range] at h1
    by_cases c1 : i < 10
    · rw [if_neg (by omega), List.getElem_append_left (by simpa using c1), List.getElem_replicate]
    · rw [List.getElem_append_right (by simp; omega)]
      by_cases c2 : i < 10 + code.length
      · rw [if_pos (by omega), List.getElem_append_left (by simp; omega), Int.ediv_one]
        unfold rdOf
        rw [List.getD_eq_getElem?_getD, show ((i : Int) - 10).toNat = i - (List.replicate 10 false).length by simp; omega, List.getElem?_eq_getElem (by simp; omega)]
        rfl
      · rw [if_neg (by omega), List.getElem_append_right (by simp; omega), List.getElem_replicate]
theorem trim_back (code : List Bool) (h0 : 0 < code.length) (hz : rdOf false code (code.length - 1 : Int) = true) (hl : code.length ≤ 1000) : ∀ b, b ≤ 1000 → Ev (fun k => F.spec_ODTrimmed.l1 k (code ++ List.replicate b false)) code := by
  intro b
  induction b with
  | zero =>
    intro _
    rw [List.replicate_zero, List.append_nil]
    refine Ev.step (f := fun _ => some code) (fun k => ?_) (Ev.now _)
    rw [F.spec_ODTrimmed.l1, show wrap64 ((code.length : Int) - 1) = (code.length : Int) - 1 by unfold wrap64; omega, if_pos (by omega), if_pos (by omega), if_pos (by omega), if_pos hz]
  | succ b ih =>
    intro hb
    have hL : (code ++ List.replicate (b + 1) false).length = code.length + b + 1 := by simp; omega
    have hr : rdOf false (code ++ List.replicate (b + 1) false) (((code ++ List.replicate (b + 1) false).length : Int) - 1) = false := by
      unfold rdOf
      rw [hL, List.getD_eq_getElem?_getD, List.getElem?_append_right (by omega)]
      rw [List.getElem?_replicate, if_pos (by omega)]
      rfl
    have ht : (code ++ List.replicate (b + 1) false).take (((code ++ List.replicate (b + 1) false).length : Int) - 1).toNat = code ++ List.replicate b false := by
      rw [hL, show (((code.length + b + 1 : Nat) : Int) - 1).toNat = code.length + b by omega, List.take_append]
      rw [List.take_of_length_le (by omega), List.take_replicate, show min (code.length + b - code.length) (b + 1) = b by omega]
    have hw : wrap64 (((code ++ List.replicate (b + 1) false).length : Int) - 1) = ((code ++ List.replicate (b + 1) false).length : Int) - 1 := by unfold wrap64; omega
    refine Ev.step (fun k => ?_) (ih (by omega))
    rw [F.spec_ODTrimmed.l1, hw, hr, ht, if_pos (by omega), if_pos (by omega), if_pos (by omega), if_neg (by simp), if_pos (by omega)]
theorem trim_front (code : List Bool) (h0 : 0 < code.length) (hf : rdOf false code 0 = true) (hz : rdOf false code (code.length - 1 : Int) = true) (hl : code.length ≤ 1000) (b : Nat) (hb : b ≤ 1000) : ∀ a, a ≤ 1000 → Ev (fun k => F.spec_ODTrimmed.l0 k (List.replicate a false ++ (code ++ List.replicate b false))) code := by
  intro a
  induction a with
  | zero =>
    intro _
    rw [List.replicate_zero, List.nil_append]
    have hr : rdOf false (code ++ List.replicate b false) 0 = true := by
      unfold rdOf at hf ⊢
      rw [List.getD_eq_getElem?_getD] at hf ⊢
      rw [List.getElem?_append_left (by simpa using h0)]
      exact hf
    refine Ev.step (f := fun k => F.spec_ODTrimmed.j1 k (code ++ List.replicate b false)) (fun k => ?_) (Ev.step (f := fun k => F.spec_ODTrimmed.l1 k (code ++ List.replicate b false)) (fun k => ?_) (trim_back code h0 hz hl b hb))
    · rw [F.spec_ODTrimmed.l0, if_pos (by simp; omega), if_pos (by simp; omega), if_pos hr]
    · rw [F.spec_ODTrimmed.j1]
  | succ a ih =>
    intro ha
    have hr : rdOf false (List.replicate (a + 1) false ++ (code ++ List.replicate b false)) 0 = false := rfl
    refine Ev.step (fun k => ?_) (ih (by omega))
    rw [F.spec_ODTrimmed.l0, if_pos (by simp; omega), if_pos (by simp; omega), hr, if_neg (by simp), if_pos (by simp; omega)]
    rfl
theorem same_self (l : List Bool) (hl : l.length ≤ 100000) : Ev (fun k => F.spec_ODSame.f k l l) true := by
  have H : ∀ d i : Nat, i + d = l.length → Ev (fun k => F.spec_ODSame.l0 k l l (l.length : Int) (i : Int)) true := by
    intro d
    induction d with
    | zero =>
      intro i hi
      refine Ev.step (f := fun _ => some true) (fun k => ?_) (Ev.now _)
      rw [F.spec_ODSame.l0, if_neg (by omega)]
    | succ d ih =>
      intro i hi
      refine Ev.step (fun k => ?_) (ih (i + 1) (by omega))
      rw [F.spec_ODSame.l0, if_pos (by omega), if_pos (by omega), if_pos (by omega), if_pos (by omega), if_neg (by simp), show wrap64 ((i : Int) + 1) = ((i + 1 : Nat) : Int) by unfold wrap64; omega]
  refine Ev.congr (fun k => ?_) (H l.length 0 (by omega))
  unfold F.spec_ODSame.f
  rw [if_pos rfl]
  rfl
/-- The row of a code, trimmed, is the code. -/
theorem trim43 (w : World) (b : Nat) (code : List Bool) (h0 : 0 < code.length) (hf : rdOf false code 0 = true) (hz : rdOf false code (code.length - 1 : Int) = true) (hl : code.length ≤ 1000) (n : Nat) (hn : (rowOf code 0 20).length = n) (hb : Blk w b 4 (bools (rowOf code 0 20)).toArray) :
    Calls Tryz.prog 43 #[.slice (some ⟨b, 0, none⟩) n n] w fun e w' => ∃ v, e = .returned v ∧ Kd.V Kd.bool 4 w' w.heap.size (fun _ => True) v code ∧ Below w.heap.size w w' := by
  subst hn
  have hR := R_of_blk (base := 0) hb rfl (by rw [row_plain code hl]; simp; omega) (by omega)
  obtain ⟨k, hk⟩ := (trim_front code h0 hf hz hl 10 (by omega) 10 (by omega)).rounds
  rw [← row_plain code hl] at hk
  refine (F.spec_ODTrimmed.calls k (fun _ => True) _ _ _ code w (Kd.V_mono (Kd.R_V hR) (fun _ _ => trivial)) hk).mono ?_
  rintro e w' ⟨v, rfl, h1, h2⟩
  exact ⟨v, rfl, Kd.V_mono h1 (fun _ _ => trivial), h2⟩
end Go.Proofs.YthkddnmomjcdaaaGreat.B
