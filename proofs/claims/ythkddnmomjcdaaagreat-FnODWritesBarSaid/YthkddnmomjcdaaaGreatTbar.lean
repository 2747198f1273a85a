import Derived.Test.YthkddnmomjcdaaaGreatLbar
import Derived.Test.YthkddnmomjcdaaaGreatU
namespace Go.Proofs.YthkddnmomjcdaaaGreat.B
open Go.RowKit Go.Proofs.YthkddnmomjcdaaaGreatW.PrintWords Go.Proofs.YthkddnmomjcdaaaGreatW.PrintLast Go.Proofs.YthkddnmomjcdaaaGreatW.PrintMore
set_option linter.unusedVariables false
set_option linter.unusedSimpArgs false

/-! ### The law's text -/
theorem odSome' (w : World) (signs : ByteArray) (A : Option Addr) (c m : Nat) (l : List Int) (most : Nat) (hlm : l.length = m) (h0 : 0 < signs.size) (h1 : signs.size ≤ 1000) (hm : most ≤ 100000) (hl : ∀ v ∈ l, 0 ≤ v ∧ v ≤ 255)
    (hC : Kd.C (Kd.int .u8) w A m l) (hc : m ≤ c) (mi : Int) (hmi : (most : Int) = mi) (r : ByteArray) (hr : r.data.toList = some_ signs l most) :
    Calls Tryz.prog 25 #[.string signs, .slice A m c, .int .i64 mi] w fun e w' => e = .returned (.string r) ∧ Drawn0 w w' := by
  subst hlm hmi
  have e : r = ⟨(some_ signs l most).toArray⟩ := by
    cases r
    rw [← hr]
  rw [e]
  obtain ⟨k, hk⟩ := (odSome_run signs l most h0 h1 hm hl (min l.length most) 0 ⟨#[]⟩ (by omega) rfl).rounds
  exact F.spec_ODSome.calls k signs A c l most _ w hC hc hk
def abcd : ByteArray := ⟨#[65, 66, 67, 68]⟩
def nsB (l : List Int) : List Nat := [16 + (l.getD 0 0 % 4).toNat] ++ ((l.drop 2).take 50).map (fun v => (v % 16).toNat) ++ [16 + (l.getD 1 0 % 4).toNat]
theorem getD_mid (x : Nat) (ms : List Nat) (y : Nat) (i : Nat) (h0 : 0 < i) (h1 : i < ms.length + 1) : ([x] ++ ms ++ [y]).getD i 0 ∈ ms := by
  rw [List.getD_eq_getElem?_getD, List.getElem?_append_left (by simp; omega), List.getElem?_append_right (by simp; omega)]
  simp only [List.length_singleton]
  rw [List.getElem?_eq_getElem (by omega)]
  exact List.getElem_mem _
theorem isBar_text (l : List Int) (h2 : 2 ≤ l.length) (r1 r2 r3 : ByteArray) (e1 : r1.data.toList = some_ abcd (l.take (1 : Int).toNat) 1) (e2 : r2.data.toList = some_ (sgB.extract 0 16) (l.drop (2 : Int).toNat) 50) (e3 : r3.data.toList = some_ abcd ((l.take (2 : Int).toNat).drop (1 : Int).toNat) 1) :
    IsBar (r1 ++ r2 ++ r3) (nsB l) (nsB l).length := by
  have hab : ∀ v : Int, abcd.data.toList.getD (v % 4).toNat 0 = sgB.data.toList.getD (16 + (v % 4).toNat) 0 := by
    intro v
    have : ∀ m : Fin 4, abcd.data.toList.getD m.val 0 = sgB.data.toList.getD (16 + m.val) 0 := by decide +kernel
    exact this ⟨(v % 4).toNat, by omega⟩
  have hcd : ∀ v : Int, (sgB.extract 0 16).data.toList.getD (v % 16).toNat 0 = sgB.data.toList.getD (v % 16).toNat 0 := by
    intro v
    have : ∀ m : Fin 16, (sgB.extract 0 16).data.toList.getD m.val 0 = sgB.data.toList.getD m.val 0 := by decide +kernel
    exact this ⟨(v % 16).toNat, by omega⟩
  have hml : (((l.drop 2).take 50).map (fun v => (v % 16).toNat)).length + 2 = (nsB l).length := by simp [nsB]
  refine ⟨?_, rfl, by omega, ?_, ?_, ?_⟩
  · rw [ba_append, ba_append, e1, e2, e3]
    match l, h2 with
    | a :: b :: r, _ =>
      have f1 : some_ abcd ((a :: b :: r).take (1 : Int).toNat) 1 = [sgB.data.toList.getD (16 + (a % 4).toNat) 0] := by
        show [abcd.data.toList.getD (a % 4).toNat 0] = _
        rw [hab]
      have f3 : some_ abcd (((a :: b :: r).take (2 : Int).toNat).drop (1 : Int).toNat) 1 = [sgB.data.toList.getD (16 + (b % 4).toNat) 0] := by
        show [abcd.data.toList.getD (b % 4).toNat 0] = _
        rw [hab]
      have f2 : some_ (sgB.extract 0 16) ((a :: b :: r).drop (2 : Int).toNat) 50 = (((a :: b :: r).drop 2).take 50).map (fun v => sgB.data.toList.getD (v % 16).toNat 0) := by
        unfold some_
        refine List.map_congr_left (fun v _ => ?_)
        exact hcd v
      rw [f1, f2, f3]
      unfold nsB
      rw [List.map_append, List.map_append, List.map_map]
      rfl
  · intro i h0 h1
    have := getD_mid (16 + (l.getD 0 0 % 4).toNat) (((l.drop 2).take 50).map (fun v => (v % 16).toNat)) (16 + (l.getD 1 0 % 4).toNat) i h0 (by omega)
    have hm : (nsB l).getD i 0 ∈ (((l.drop 2).take 50).map (fun v => (v % 16).toNat)) := this
    simp only [List.mem_map] at hm
    obtain ⟨v, _, hv⟩ := hm
    omega
  · have : (nsB l).getD 0 0 = 16 + (l.getD 0 0 % 4).toNat := rfl
    omega
  · have : (nsB l).getD ((nsB l).length - 1) 0 = 16 + (l.getD 1 0 % 4).toNat := by
      rw [show (nsB l).length - 1 = ([16 + (l.getD 0 0 % 4).toNat] ++ ((l.drop 2).take 50).map (fun v => (v % 16).toNat)).length by rw [List.length_append, List.length_singleton]; omega]
      unfold nsB
      simp [List.getD_eq_getElem?_getD]
    omega
set_option maxHeartbeats 1000000 in
set_option maxRecDepth 100000 in
theorem odBarText (w : World) (A : Option Addr) (c : Nat) (l : List Int) (hl : ∀ v ∈ l, 0 ≤ v ∧ v ≤ 255) (hC : Kd.C (Kd.int .u8) w A l.length l) (hc : l.length ≤ c) (h4 : 4 ≤ l.length) (hm : l.length ≤ 2147483647) :
    Calls Tryz.prog 20 #[.slice A l.length c] w fun e w' => ∃ t : ByteArray, e = .returned (.string t) ∧ IsBar t (nsB l) (nsB l).length ∧ Below w.heap.size w w' := by
  have hm0 : 2 ≤ l.length := by omega
  have d1 : decide ((l.length : Int) < 4) = false := decide_eq_false (by omega)
  have hcC := Aside0.mk hc
  have HL := Aside0.mk hl
  have HC := Aside0.mk hC
  obtain ⟨i1, hi1, _, hs1, _⟩ := info_parts F.info5
  obtain ⟨hcut1, hA1, hC1⟩ := print_take_of (P := Tryz.prog) (Value.int .u8) 0 22 5 .i64 Tryz.underlying22 hi1 hs1 A c l 1 (by omega) (by omega) hc
  obtain ⟨A2, hcut2, hA2, hC2⟩ := print_drop_of (P := Tryz.prog) (Value.int .u8) 0 22 5 .i64 Tryz.underlying22 hi1 hs1 A c l 2 (by omega) (by omega) hc
  obtain ⟨A3, hcut3, hA3, hC3⟩ := print_mid_of (P := Tryz.prog) (Value.int .u8) 0 22 5 .i64 .i64 Tryz.underlying22 hi1 hs1 A c l 1 2 (by omega) (by omega) (by omega) hc
  have hr0 := Kd.reads_of_C (enc := Value.int .u8) (d := (0 : Int)) (h1 := fun _ => rfl) hC
  have k1 := hA1 w hr0
  have k2 := hA2 w hr0
  have k3 := hA3 w hr0
  have l1 : (l.take (1 : Int).toNat).length = 1 := by simp; omega
  have l2 : (l.drop (2 : Int).toNat).length = l.length - 2 := by simp
  have l3 : ((l.take (2 : Int).toNat).drop (1 : Int).toNat).length = 1 := by simp; omega
  rw [l1] at hcut1 hC1 k1
  rw [l2] at hcut2 hC2 k2
  rw [l3] at hcut3 hC3 k3
  have K1 := Aside0.mk (Kd.C_of_reads (d := (0 : Int)) (h1 := fun _ => rfl) k1)
  have K2 := Aside0.mk (Kd.C_of_reads (d := (0 : Int)) (h1 := fun _ => rfl) k2)
  have K3 := Aside0.mk (Kd.C_of_reads (d := (0 : Int)) (h1 := fun _ => rfl) k3)
  have L1 := Aside0.mk l1
  have L2 := Aside0.mk l2
  have L3 := Aside0.mk l3
  clear hl hC hA1 hA2 hA3 hr0 k1 k2 k3 l1 l2 l3 hi1 hs1
  obtain ⟨r1, hr1⟩ : ∃ r : ByteArray, r.data.toList = some_ abcd (l.take (1 : Int).toNat) 1 := ⟨⟨(some_ abcd (l.take (1 : Int).toNat) 1).toArray⟩, rfl⟩
  obtain ⟨r2, hr2⟩ : ∃ r : ByteArray, r.data.toList = some_ (sgB.extract 0 16) (l.drop (2 : Int).toNat) 50 := ⟨⟨(some_ (sgB.extract 0 16) (l.drop (2 : Int).toNat) 50).toArray⟩, rfl⟩
  obtain ⟨r3, hr3⟩ : ∃ r : ByteArray, r.data.toList = some_ abcd ((l.take (2 : Int).toNat).drop (1 : Int).toNat) 1 := ⟨⟨(some_ abcd ((l.take (2 : Int).toNat).drop (1 : Int).toNat) 1).toArray⟩, rfl⟩
  have R1 := Aside0.mk hr1
  have R2 := Aside0.mk hr2
  have R3 := Aside0.mk hr3
  clear hr1 hr2 hr3
  have T1 := Aside0.mk (fun (W : World) (hK : Kd.C (Kd.int .u8) W A 1 (l.take (1 : Int).toNat)) => (show Calls Tryz.prog 25 #[.string (⟨#[65, 66, 67, 68]⟩ : ByteArray), .slice A 1 (c), .int .i64 1] W fun e w' => e = .returned (.string r1) ∧ Drawn0 W w' from
    odSome' W (⟨#[65, 66, 67, 68]⟩ : ByteArray) A (c) 1 _ 1 L1.out (by decide) (by decide) (by omega) (fun v hv => HL.out v (List.mem_of_mem_take hv)) hK hC1 1 rfl r1 R1.out))
  have T2 := Aside0.mk (fun (W : World) (hK : Kd.C (Kd.int .u8) W A2 (l.length - 2) (l.drop (2 : Int).toNat)) => (show Calls Tryz.prog 25 #[.string ((⟨#[48, 49, 50, 51, 52, 53, 54, 55, 56, 57, 45, 36, 58, 47, 46, 43, 65, 66, 67, 68]⟩ : ByteArray).extract 0 16), .slice A2 (l.length - 2) (c - 2), .int .i64 50] W fun e w' => e = .returned (.string r2) ∧ Drawn0 W w' from
    odSome' W ((⟨#[48, 49, 50, 51, 52, 53, 54, 55, 56, 57, 45, 36, 58, 47, 46, 43, 65, 66, 67, 68]⟩ : ByteArray).extract 0 16) A2 (c - 2) (l.length - 2) _ 50 L2.out (by decide) (by decide) (by omega) (fun v hv => HL.out v (List.mem_of_mem_drop hv)) hK hC2 50 rfl r2 R2.out))
  have T3 := Aside0.mk (fun (W : World) (hK : Kd.C (Kd.int .u8) W A3 1 ((l.take (2 : Int).toNat).drop (1 : Int).toNat)) => (show Calls Tryz.prog 25 #[.string (⟨#[65, 66, 67, 68]⟩ : ByteArray), .slice A3 1 (c - 1), .int .i64 1] W fun e w' => e = .returned (.string r3) ∧ Drawn0 W w' from
    odSome' W (⟨#[65, 66, 67, 68]⟩ : ByteArray) A3 (c - 1) 1 _ 1 L3.out (by decide) (by decide) (by omega) (fun v hv => HL.out v (List.mem_of_mem_take (List.mem_of_mem_drop hv))) hK hC3 1 rfl r3 R3.out))
  clear hC1 hC2 hC3
  have z1 : r1.size ≤ 50 := by rw [← data_length, R1.out]; unfold some_; rw [List.length_map, List.length_take]; omega
  have z2 : r2.size ≤ 50 := by rw [← data_length, R2.out]; unfold some_; rw [List.length_map, List.length_take]; omega
  have z3 : r3.size ≤ 50 := by rw [← data_length, R3.out]; unfold some_; rw [List.length_map, List.length_take]; omega
  have z12 : (r1 ++ r2).size ≤ 100 := by rw [ByteArray.size_append]; omega
  have c9 : r1.size + r2.size ≤ 9223372036854775807 := by omega
  have c9b0 := eq_true c9
  have c9b1 : decide (r1.size + r2.size ≤ 9223372036854775807) = true := decide_eq_true c9
  have c9b2 : (9223372036854775807 < r1.size + r2.size) = False := eq_false (Nat.not_lt.2 c9)
  have d9 : (r1 ++ r2).size + r3.size ≤ 9223372036854775807 := by omega
  have d9b0 := eq_true d9
  have d9b1 : decide ((r1 ++ r2).size + r3.size ≤ 9223372036854775807) = true := decide_eq_true d9
  have d9b2 : (9223372036854775807 < (r1 ++ r2).size + r3.size) = False := eq_false (Nat.not_lt.2 d9)
  go_enter Tryz.func20, Tryz.ntmps20
  go_wp2_with fail
  go_region_with (first
    | (go_at_call 25; (with_reducible refine (T1.out _ ?side).mono ?_); (case side => repeat (first | exact K1.out | (with_reducible refine Kd.C_drewN ?_ _) | (with_reducible refine Kd.C_drew ?_))); rintro e w' ⟨rfl, ⟨n1, rfl⟩⟩)
    | (go_at_call 25; (with_reducible refine (T2.out _ ?side).mono ?_); (case side => repeat (first | exact K2.out | (with_reducible refine Kd.C_drewN ?_ _) | (with_reducible refine Kd.C_drew ?_))); rintro e w' ⟨rfl, ⟨n2, rfl⟩⟩)
    | (go_at_call 25; (with_reducible refine (T3.out _ ?side).mono ?_); (case side => repeat (first | exact K3.out | (with_reducible refine Kd.C_drewN ?_ _) | (with_reducible refine Kd.C_drew ?_))); rintro e w' ⟨rfl, ⟨n3, rfl⟩⟩))
  go_wp2
  go_ret
  refine ⟨_, rfl, ?_, (show Drawn0 w _ from by first | exact ⟨_, rfl⟩ | (repeat (first | exact Drawn0.refl _ | apply Drawn0.step))).below⟩
  exact isBar_text l hm0 r1 r2 r3 R1.out R2.out R3.out
set_option maxHeartbeats 2000000 in
set_option maxRecDepth 100000 in
theorem odBarNone (w : World) (A : Option Addr) (c : Nat) (l : List Int) (h4 : l.length < 4) :
    Calls Tryz.prog 20 #[.slice A l.length c] w fun e w' => e = .returned (.string ⟨#[]⟩) ∧ Below w.heap.size w w' := by
  have d1 : decide ((l.length : Int) < 4) = true := decide_eq_true (by omega)
  go_enter Tryz.func20, Tryz.ntmps20
  go_wp2
  go_ret
  exact ⟨rfl, Below.refl _ _⟩
end Go.Proofs.YthkddnmomjcdaaaGreat.B
