import Derived.Test.YthkddnmomjcdaaaGreatG
import Derived.Laws.RangeAny
namespace Go.Proofs.YthkddnmomjcdaaaGreat.B
open Go.RowKit Go.Proofs.YthkddnmomjcdaaaGreatW.PrintWords Go.Proofs.YthkddnmomjcdaaaGreatW.PrintLast Go.Proofs.YthkddnmomjcdaaaGreatW.PrintMore
set_option linter.unusedVariables false
set_option linter.unusedSimpArgs false

/-- A byte is a digit. -/
def isDig (b : UInt8) : Prop := 48 ≤ b.toNat ∧ b.toNat ≤ 57
theorem iter_below (w : World) (s : ByteArray) (p : Nat) : Below w.heap.size w (w.iter s p) := below_alloc (Below.refl _ _) _

def NumPost (n m : Nat) (v : Value) : Prop := if n = m then v = .nilIface else ∃ x, v = .iface 141 x
set_option maxHeartbeats 1000000 in
theorem numeric (w : World) (s : ByteArray) (hs : s.size ≤ 1000000000) (n : Nat) (hn : n ≤ s.size) (hd : ∀ i (hi : i < n), isDig (s[i]'(by omega))) (hx : ∀ h : n < s.size, ¬ isDig (s[n]'h)) :
    Calls Tryz.prog 162 #[.string s] w fun e w' => ∃ v, e = .returned v ∧ NumPost n s.size v ∧ Below w.heap.size w w' := by
  have HD := Aside0.mk hd
  have HX := Aside0.mk hx
  clear hd hx
  go_enter Tryz.func162, Tryz.ntmps162
  go_wp2
  go_loopw [4] (fun v wr => ∃ p : Nat, p ≤ n ∧ Aside0 (wr = w.iter s p)) (fun _ wr => s.size - wr.iterPos w.heap.size)
  case atStart => exact ⟨0, by omega, ⟨rfl⟩⟩
  case round =>
    obtain ⟨p, hp, hw⟩ := hrel
    obtain rfl := hw.out
    clear hw
    by_cases he : p < s.size
    · by_cases hlt : p < n
      · have hdp := HD.out p hlt
        obtain ⟨h1, h2⟩ := hdp
        have hnx := fun ty => run_next_ascii (P := Tryz.prog) w s p ty he (by omega)
        have b1 : decide (((s[p]'he).toNat : Int) < 48) = false := decide_eq_false (by omega)
        have b2 : decide ((57 : Int) < ((s[p]'he).toNat : Int)) = false := decide_eq_false (by omega)
        go_wp2
        go_roundw
        case rel => exact ⟨p + 1, by omega, ⟨rfl⟩⟩
        case measure => simp; omega
      · have hpn : p = n := by omega
        subst hpn
        have hxx := HX.out he
        have hnx := fun ty => run_next_any (P := Tryz.prog) w s p ty he
        have hdec : ((Utf8.decode s p).1 : Int) < 48 ∨ (57 : Int) < ((Utf8.decode s p).1 : Int) := by
          by_cases ha : (s[p]'he).toNat < 128
          · rw [decode_ascii s p he ha]
            unfold isDig at hxx
            show (((s[p]'he).toNat : Int) < 48) ∨ (57 : Int) < ((s[p]'he).toNat : Int)
            omega
          · have := (decode_high s p he (by omega)).1
            omega
        have hle := decode_le s p
        obtain ⟨d, hd⟩ : ∃ d, (Utf8.decode s p).1 = d := ⟨_, rfl⟩
        rw [hd] at hnx hdec hle
        clear hxx hd
        by_cases hlo : (d : Int) < 48
        · have b1 : decide ((d : Int) < 48) = true := decide_eq_true hlo
          clear hdec
          go_wp2_with (go_at_call 96; refine (newWExc _ _).mono ?_; rintro e w' ⟨x, rfl, hb⟩)
          go_ret
          refine ⟨_, rfl, by unfold NumPost; rw [if_neg (by omega)]; exact ⟨x, rfl⟩, ?_⟩
          exact (below_alloc (iter_below w s _) _).trans (hb.mono (by simp [World.iter]; omega))
        · have b1 : decide ((d : Int) < 48) = false := decide_eq_false hlo
          have b2 : decide ((57 : Int) < (d : Int)) = true := decide_eq_true (by omega)
          clear hdec
          go_wp2_with (go_at_call 96; refine (newWExc _ _).mono ?_; rintro e w' ⟨x, rfl, hb⟩)
          go_ret
          refine ⟨_, rfl, by unfold NumPost; rw [if_neg (by omega)]; exact ⟨x, rfl⟩, ?_⟩
          exact (below_alloc (iter_below w s _) _).trans (hb.mono (by simp [World.iter]; omega))
    · have hpn : p = n := by omega
      have hps : n = s.size := by omega
      subst hpn
      have hnx := fun ty => run_next_end (P := Tryz.prog) w s p ty he
      have HPS := Aside0.mk hps
      clear he hps
      go_wp2
      go_ret
      exact ⟨_, rfl, by unfold NumPost; rw [if_pos HPS.out]; rfl, iter_below w s p⟩
end Go.Proofs.YthkddnmomjcdaaaGreat.B
