import Derived.Test.YthkddnmomjcdaaaGreatP
import Derived.Test.YthkddnmomjcdaaaGreatF25
import Derived.Test.YthkddnmomjcdaaaGreatF14
import Derived.Lib.Strings
namespace Go.Proofs.YthkddnmomjcdaaaGreat.B
open Go.RowKit Go.Proofs.YthkddnmomjcdaaaGreatW.PrintWords Go.Proofs.YthkddnmomjcdaaaGreatW.PrintLast Go.Proofs.YthkddnmomjcdaaaGreatW.PrintMore
set_option linter.unusedVariables false
set_option linter.unusedSimpArgs false

/-! ### Texts of some signs -/
def some_ (signs : ByteArray) (l : List Int) (most : Nat) : List UInt8 := (l.take most).map fun v => signs.data.toList.getD (v % (signs.size : Int)).toNat 0
theorem ba_append (a b : ByteArray) : (a ++ b).data.toList = a.data.toList ++ b.data.toList := by simp [ByteArray.data_append]
theorem odSome_run (signs : ByteArray) (l : List Int) (most : Nat) (h0 : 0 < signs.size) (h1 : signs.size ≤ 1000) (hm : most ≤ 100000) (hl : ∀ v ∈ l, 0 ≤ v ∧ v ≤ 255) :
    ∀ (d i : Nat) (x : ByteArray), i + d = min l.length most → x.data.toList = some_ signs l i → Ev (fun k => F.spec_ODSome.l0 k signs l most x i) ⟨(some_ signs l most).toArray⟩ := by
  have hfin : ∀ (i : Nat) (x : ByteArray), i = min l.length most → x.data.toList = some_ signs l i → x = ⟨(some_ signs l most).toArray⟩ := by
    intro i x hi hx
    have e : some_ signs l i = some_ signs l most := by
      unfold some_
      congr 1
      rw [hi]
      rcases Nat.le_total l.length most with h | h
      · rw [Nat.min_eq_left h, List.take_of_length_le (Nat.le_refl _), List.take_of_length_le h]
      · rw [Nat.min_eq_right h]
    rw [e] at hx
    rw [← hx]
  intro d
  induction d with
  | zero =>
    intro i x hi hx
    rw [← hfin i x hi hx]
    refine Ev.step (f := fun _ => some x) (fun k => ?_) (Ev.now x)
    rw [F.spec_ODSome.l0]
    by_cases hc : (i : Int) < l.length
    · rw [if_pos hc, if_neg (by omega)]
    · rw [if_neg hc]
  | succ d ih =>
    intro i x hi hx
    have hil : i < l.length := by omega
    have him : i < most := by omega
    have hv := hl _ (rd_mem l (i : Int) (by simpa using hil))
    have hrd : rd l (i : Int) = l[i] := by simp [rd, List.getElem?_eq_getElem hil]
    have hw : wrap64 (rd l (i : Int)) = rd l i := by unfold wrap64; omega
    have ht : Int.tmod (rd l (i : Int)) (signs.size : Int) = rd l (i : Int) % (signs.size : Int) := Int.tmod_eq_emod_of_nonneg hv.1
    have hb0 : 0 ≤ rd l (i : Int) % (signs.size : Int) := Int.emod_nonneg _ (by omega)
    have hb1 : rd l (i : Int) % (signs.size : Int) < signs.size := Int.emod_lt_of_pos _ (by omega)
    obtain ⟨q, hq⟩ : ∃ q : Nat, rd l (i : Int) % (signs.size : Int) = q := ⟨(rd l (i : Int) % (signs.size : Int)).toNat, by omega⟩
    have hxs : x.size = i := by rw [← data_length, hx]; simp [some_]; omega
    have hex : (signs.extract q (q + 1)).data.toList = [signs.data.toList.getD q 0] := by
      have hql : q < signs.data.toList.length := by rw [data_length]; omega
      rw [Lib.extract_data, show q + 1 - q = 1 by omega, List.drop_eq_getElem_cons hql, List.getD_eq_getElem?_getD, List.getElem?_eq_getElem hql]
      rfl
    have hes : (signs.extract q (q + 1)).size = 1 := by rw [← data_length, hex]; rfl
    have hx2 : (x ++ signs.extract q (q + 1)).data.toList = some_ signs l (i + 1) := by
      rw [ba_append, hex, hx]
      unfold some_
      rw [List.take_succ_eq_append_getElem hil, List.map_append, List.map_singleton, ← hrd, hq, Int.toNat_natCast]
    refine Ev.step (fun k => ?_) (ih (i + 1) _ (by omega) hx2)
    rw [F.spec_ODSome.l0, if_pos (by omega), if_pos (by omega), if_pos (by omega), if_neg (by omega), hw, ht, hq, if_pos (by omega), show wrap64 ((q : Int) + 1) = ((q + 1 : Nat) : Int) by unfold wrap64; omega, if_pos (by omega), if_pos (by omega), Int.toNat_natCast, Int.toNat_natCast, hes, hxs, if_pos (by omega), show wrap64 ((i : Int) + 1) = ((i + 1 : Nat) : Int) by unfold wrap64; omega]

theorem odSome (w : World) (signs : ByteArray) (A : Option Addr) (c : Nat) (l : List Int) (most : Nat) (h0 : 0 < signs.size) (h1 : signs.size ≤ 1000) (hm : most ≤ 100000) (hl : ∀ v ∈ l, 0 ≤ v ∧ v ≤ 255)
    (hC : Kd.C (Kd.int .u8) w A l.length l) (hc : l.length ≤ c) :
    Calls Tryz.prog 25 #[.string signs, .slice A l.length c, .int .i64 (most : Int)] w fun e w' => e = .returned (.string ⟨(some_ signs l most).toArray⟩) ∧ Below w.heap.size w w' := by
  obtain ⟨k, hk⟩ := (odSome_run signs l most h0 h1 hm hl (min l.length most) 0 ⟨#[]⟩ (by omega) rfl).rounds
  refine (F.spec_ODSome.calls k signs A c l most _ w hC hc hk).mono ?_
  rintro e w' ⟨rfl, h⟩
  exact ⟨rfl, h.below⟩

def tenSigns : ByteArray := ⟨#[48, 49, 50, 51, 52, 53, 54, 55, 56, 57]⟩
def digs (l : List Int) : List Nat := let n := (min l.length 80) / 2 * 2; (l.take n).map fun v => (v % 10).toNat
theorem digs_len (l : List Int) : (digs l).length = 2 * (min l.length 80 / 2) := by simp [digs]; omega
def DigPost (l : List Int) (least : Int) (t : ByteArray) : Prop := if ((digs l).length : Int) < least then t = ⟨#[]⟩ else t.data.toList = (digs l).map (fun d => UInt8.ofNat (48 + d))
/-- The text of digits, or none if there are fewer than two. -/
theorem odDigits (w : World) (A : Option Addr) (c : Nat) (l : List Int) (least : Int) (hl : ∀ v ∈ l, 0 ≤ v ∧ v ≤ 255) (hC : Kd.C (Kd.int .u8) w A l.length l) (hc : l.length ≤ c) (h2 : least = 2 ∨ least = 6) :
    Calls Tryz.prog 22 #[.slice A l.length c, .int .i64 least] w fun e w' => ∃ t : ByteArray, e = .returned (.string t) ∧ Below w.heap.size w w' ∧
      DigPost l least t := by
  obtain ⟨r, hr⟩ : ∃ r : ByteArray, (⟨(some_ tenSigns l 80).toArray⟩ : ByteArray) = r := ⟨_, rfl⟩
  have hrd : r.data.toList = some_ tenSigns l 80 := by rw [← hr]
  have hrs : r.size = min l.length 80 := by rw [← data_length, hrd]; simp [some_]; omega
  obtain ⟨n, hn⟩ : ∃ n, min l.length 80 = n := ⟨_, rfl⟩
  rw [hn] at hrs
  have hn80 : n ≤ 80 := by omega
  have hes : (r.extract 0 (n / 2 * 2)).size = n / 2 * 2 := by
    rw [← data_length, Lib.extract_data, List.drop_zero, List.length_take, data_length, hrs]; omega
  have hdl := digs_len l
  rw [hn] at hdl
  have hed : (r.extract 0 (n / 2 * 2)).data.toList = (digs l).map (fun d => UInt8.ofNat (48 + d)) := by
    rw [Lib.extract_data, List.drop_zero, Nat.sub_zero, hrd]
    unfold some_ digs
    rw [← List.map_take, List.take_take, hn, show min (n / 2 * 2) 80 = n / 2 * 2 by omega, List.map_map]
    refine List.map_congr_left fun v hv => ?_
    have hv2 := hl v (List.mem_of_mem_take hv)
    have : ∀ q : Fin 10, tenSigns.data.toList.getD (q : Nat) 0 = UInt8.ofNat (48 + (q : Nat)) := by decide +kernel
    exact this ⟨(v % 10).toNat, by omega⟩
  have HES := Aside0.mk hes
  have HED := Aside0.mk hed
  have HDL := Aside0.mk hdl
  have HC := Aside0.mk hC
  have HR := Aside0.mk hr
  have HL := Aside0.mk hl
  have hrsI : (r.size : Int) = n := by omega
  have heI : ((r.extract 0 (n / 2 * 2)).size : Int) = (n : Int) / 2 * 2 := by omega
  have hds : ((digs l).length : Int) = (n : Int) / 2 * 2 := by omega
  have HDS := Aside0.mk hds
  clear hes hed hdl hC hr hrs hn hrd hl hds
  have hb1 : 0 ≤ (n : Int) / 2 * 2 ∧ (n : Int) / 2 * 2 ≤ n := by omega
  obtain ⟨hb1, hb2⟩ := hb1
  by_cases hlt : (n : Int) / 2 * 2 < least
  · have hdd : decide ((n : Int) / 2 * 2 < least) = true := decide_eq_true hlt
    have hd2 : decide (((min (n / 2 * 2) r.size : Nat) : Int) < least) = true := decide_eq_true (by omega)
    clear hlt
    go_enter Tryz.func22, Tryz.ntmps22
    go_wp2_with fail
    refine (odSome w tenSigns A c l 80 (by decide) (by decide) (by omega) HL.out HC.out hc).mono ?_
    rintro e w1 ⟨rfl, hb⟩
    rw [HR.out]
    have HB := Aside0.mk hb
    clear hb
    go_wp2
    go_ret
    exact ⟨_, rfl, HB.out, by unfold DigPost; rw [HDS.out, if_pos (of_decide_eq_true hdd)]⟩
  · have hdd : decide ((n : Int) / 2 * 2 < least) = false := decide_eq_false hlt
    have hd2 : decide (((min (n / 2 * 2) r.size : Nat) : Int) < least) = false := decide_eq_false (by omega)
    clear hlt
    go_enter Tryz.func22, Tryz.ntmps22
    go_wp2_with fail
    refine (odSome w tenSigns A c l 80 (by decide) (by decide) (by omega) HL.out HC.out hc).mono ?_
    rintro e w1 ⟨rfl, hb⟩
    rw [HR.out]
    have HB := Aside0.mk hb
    clear hb
    go_wp2
    go_ret
    exact ⟨_, rfl, HB.out, by unfold DigPost; rw [HDS.out, if_neg (of_decide_eq_false hdd)]; exact HED.out⟩
end Go.Proofs.YthkddnmomjcdaaaGreat.B
