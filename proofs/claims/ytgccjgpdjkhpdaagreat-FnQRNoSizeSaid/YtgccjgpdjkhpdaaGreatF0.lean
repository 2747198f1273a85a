import Derived.Test.YtgccjgpdjkhpdaaGreatProg
import Derived.Below
import Derived.Deep.Draws
import Derived.Deep.AppendLies
import Derived.Maps.AppendAt
import Derived.OwnWalk
import Derived.Laws.BytesArg
import Derived.Laws.MakeOwn
import Derived.Laws.OwnMore
import Derived.Deep.OwnRows
import Derived.Tactics
import Derived.Lib.ConvBytes
import Derived.Laws.Slices
import Derived.WalkKit
import Derived.KernelRfl
import Derived.RowKit3
import Derived.Deep.LoopGhost
import Derived.Deep.QuietTactic
import Derived.BigQuiet
import Derived.WideLaws
import Derived.Deep.DeepCutAuto
import Derived.Deep.CutBlock
import Derived.Deep.RegionHeld3
import Derived.Laws.Rows
import Derived.Lib.AppendStr
import Derived.ArgAppend
import Derived.Laws.IdiomCopy
import Derived.OrdersHeld
import Derived.Laws.BitsLemmas
import Derived.RowKit
import Derived.Test.YtgccjgpdjkhpdaaGreatWWords
import Derived.Test.YtgccjgpdjkhpdaaGreatWLast
import Derived.Test.YtgccjgpdjkhpdaaGreatWTab
import Derived.Test.YtgccjgpdjkhpdaaGreatWFour
import Derived.Test.YtgccjgpdjkhpdaaGreatWQPut
import Derived.Test.YtgccjgpdjkhpdaaGreatWApart
import Derived.Test.YtgccjgpdjkhpdaaGreatWArr
import Derived.Test.YtgccjgpdjkhpdaaGreatWZeros
import Derived.Test.YtgccjgpdjkhpdaaGreatWFoot
import Derived.Test.YtgccjgpdjkhpdaaGreatWKept
import Derived.Test.YtgccjgpdjkhpdaaGreatWShare
import Derived.Test.YtgccjgpdjkhpdaaGreatWN
import Derived.Test.YtgccjgpdjkhpdaaGreatWFootNe
import Derived.Test.YtgccjgpdjkhpdaaGreatWAt
import Derived.Test.YtgccjgpdjkhpdaaGreatWEqStruct
import Derived.Test.YtgccjgpdjkhpdaaGreatWRepsOne
import Derived.Test.YtgccjgpdjkhpdaaGreatWInv
import Derived.Test.YtgccjgpdjkhpdaaGreatWInvWords
import Derived.Test.YtgccjgpdjkhpdaaGreatWGuard
import Derived.Test.YtgccjgpdjkhpdaaGreatWNEv
import Derived.Test.YtgccjgpdjkhpdaaGreatWMore
namespace Go.Proofs.YtgccjgpdjkhpdaaGreat.F
open Go.RowKit Go.Proofs.YtgccjgpdjkhpdaaGreatW.PrintWords Go.Proofs.YtgccjgpdjkhpdaaGreatW.PrintLast Go.Proofs.YtgccjgpdjkhpdaaGreatW.PrintMore
attribute [local go_sem] max2_int min2_int max_two min_two max_three min_three max_four min_four   -- for this text's walks alone
set_option linter.unusedVariables false
set_option linter.unusedSimpArgs false



def errW : Option Int → Value
  | none => .nilIface
  | some c => .iface 0 (.int .i64 c)
theorem errW_none : errW none = .nilIface := rfl
theorem errW_some (c : Int) : errW (some c) = .iface 0 (.int .i64 c) := rfl

theorem info3 : (Tryz.prog.info? 3).map (fun i => (i.zero, i.size, i.bytes)) = some (some (.int .i64 0), 1, 8) := by kernel_rfl
theorem info4 : (Tryz.prog.info? 4).map (fun i => (i.zero, i.size, i.bytes)) = some (some (.bool false), 1, 1) := by kernel_rfl
theorem info5 : (Tryz.prog.info? 5).map (fun i => (i.zero, i.size, i.bytes)) = some (some (.int .u8 0), 1, 1) := by kernel_rfl
theorem info45 : (Tryz.prog.info? 45).map (fun i => (i.zero, i.size, i.bytes)) = some (some (.slice none 0 0), 1, 24) := by kernel_rfl
theorem info150 : (Tryz.prog.info? 150).map (fun i => (i.zero, i.size, i.bytes)) = some (some (.int .u64 0), 1, 8) := by kernel_rfl
theorem info249 : (Tryz.prog.info? 249).map (fun i => (i.zero, i.size, i.bytes)) = some (some (.slice none 0 0), 1, 24) := by kernel_rfl
-- the values' own types
def rd_L1 (xs : List (List Bool)) (i : Int) : (List Bool) := xs.getD i.toNat ([] : List Bool)
theorem at_L1 {w : World} {A : Option Addr} {n : Nat} {xs : List (List Bool)} (h : Kd.C (Kd.slice 4 Kd.bool) w A n xs) (i : Int) (h0 : 0 ≤ i) (h1 : i < n) : ∃ ad A0 c0, A = some ad ∧ w.cell? (ad.add i.toNat) = some (.slice A0 (rd_L1 xs i).length c0) ∧ (rd_L1 xs i).length ≤ c0 ∧ Kd.bool.C w A0 (rd_L1 xs i).length (rd_L1 xs i) := by
  obtain ⟨ad, c, e, _, hK, hc0⟩ := Kd.C_get h ([] : List Bool) i h0 h1
  have hc : ∀ j u, c[j]? = some u → w.cell? (ad.add (i.toNat * 1 + j)) = some u := hc0
  obtain ⟨A0, c0, rfl, l0, g0⟩ := hK
  exact ⟨ad, A0, c0, e, by have hq := hc 0 _ rfl; rwa [Nat.mul_one, Nat.add_zero] at hq, l0, g0⟩

/-! #### struct type 221 -/
structure S221 where
  f0 : Int
  f1 : Int
def z221 : S221 := ⟨(0 : Int), (0 : Int)⟩
def k221 : Kd S221 := Kd.iso (Kd.pair (Kd.int .i64) (Kd.int .i64)) (fun x : S221 => (x.f0, x.f1))
theorem k221_open {w : World} {x : S221} {cs : List Value} (h : k221.K w x cs) : cs = [.int .i64 x.f0, .int .i64 x.f1] := by
  obtain ⟨_, _, rfl, rfl, rfl⟩ := h
  exact rfl
theorem k221_openM {w : World} {base : Nat} {ok : Nat → Prop} {x : S221} {cs : List Value} (h : k221.M w base ok x cs) : cs = [.int .i64 x.f0, .int .i64 x.f1] := by
  obtain ⟨_, _, rfl, rfl, rfl⟩ := h
  exact rfl
theorem k221_mk (w : World) (x : S221)  : k221.K w x [.int .i64 x.f0, .int .i64 x.f1] := ⟨[.int .i64 x.f0], [.int .i64 x.f1], rfl, rfl, rfl⟩
theorem k221_mkM (w : World) (base : Nat) (ok : Nat → Prop) (x : S221)  : k221.M w base ok x [.int .i64 x.f0, .int .i64 x.f1] := ⟨[.int .i64 x.f0], [.int .i64 x.f1], rfl, rfl, rfl⟩
theorem k221_mkF (W : World) (ok : Nat → Prop) (x : S221) : Kd.FK k221 W ok x [.int .i64 x.f0, .int .i64 x.f1] := fun W2 _ => k221_mk W2 x
def rd_T221 (xs : List S221) (i : Int) : S221 := xs.getD i.toNat z221
theorem at_T221 {w : World} {A : Option Addr} {n : Nat} {xs : List S221} (h : Kd.C k221 w A n xs) (i : Int) (h0 : 0 ≤ i) (h1 : i < n) : ∃ ad , A = some ad ∧ w.cell? (ad.add (i.toNat * 2)) = some (.int .i64 (rd_T221 xs i).f0) ∧ w.cell? ⟨(ad.add (i.toNat * 2)).block, (ad.add (i.toNat * 2)).off + 1, none⟩ = some (.int .i64 (rd_T221 xs i).f1) := by
  obtain ⟨ad, c, e, _, hK, hc0⟩ := Kd.C_get h z221 i h0 h1
  have hc : ∀ j u, c[j]? = some u → w.cell? (ad.add (i.toNat * 2 + j)) = some u := hc0
  obtain rfl := k221_open hK
  exact ⟨ad, e, hc 0 _ rfl, by rw [← add_field _ _ 1 (by omega)]; exact hc 1 _ rfl⟩

def rd_L4 (xs : List (List S221)) (i : Int) : (List S221) := xs.getD i.toNat ([] : List S221)
theorem at_L4 {w : World} {A : Option Addr} {n : Nat} {xs : List (List S221)} (h : Kd.C (Kd.slice 221 k221) w A n xs) (i : Int) (h0 : 0 ≤ i) (h1 : i < n) : ∃ ad A0 c0, A = some ad ∧ w.cell? (ad.add i.toNat) = some (.slice A0 (rd_L4 xs i).length c0) ∧ (rd_L4 xs i).length ≤ c0 ∧ k221.C w A0 (rd_L4 xs i).length (rd_L4 xs i) := by
  obtain ⟨ad, c, e, _, hK, hc0⟩ := Kd.C_get h ([] : List S221) i h0 h1
  have hc : ∀ j u, c[j]? = some u → w.cell? (ad.add (i.toNat * 1 + j)) = some u := hc0
  obtain ⟨A0, c0, rfl, l0, g0⟩ := hK
  exact ⟨ad, A0, c0, e, by have hq := hc 0 _ rfl; rwa [Nat.mul_one, Nat.add_zero] at hq, l0, g0⟩

/-! #### struct type 224 -/
structure S224 where
  f0 : Int
  f1 : (List S221)
def z224 : S224 := ⟨(0 : Int), ([] : List S221)⟩
def k224 : Kd S224 := Kd.iso (Kd.pair (Kd.int .i64) (Kd.slice 221 k221)) (fun x : S224 => (x.f0, x.f1))
theorem k224_open {w : World} {x : S224} {cs : List Value} (h : k224.K w x cs) : ∃ A1 c1, cs = [.int .i64 x.f0, .slice A1 x.f1.length c1] ∧ x.f1.length ≤ c1 ∧ k221.C w A1 x.f1.length x.f1 := by
  obtain ⟨_, _, rfl, rfl, ⟨A1, c1, rfl, l1, g1⟩⟩ := h
  exact ⟨A1, c1, rfl, l1, g1⟩
theorem k224_openM {w : World} {base : Nat} {ok : Nat → Prop} {x : S224} {cs : List Value} (h : k224.M w base ok x cs) : ∃ v1, cs = [.int .i64 x.f0, v1] ∧ k221.R 221 w base ok v1 x.f1 := by
  obtain ⟨_, _, rfl, rfl, ⟨v1, rfl, g1⟩⟩ := h
  exact ⟨v1, rfl, g1⟩
theorem k224_mk (w : World) (x : S224) {A1 : Option Addr} {c1 : Nat} (l1 : x.f1.length ≤ c1) (g1 : k221.C w A1 x.f1.length x.f1) : k224.K w x [.int .i64 x.f0, .slice A1 x.f1.length c1] := ⟨[.int .i64 x.f0], [.slice A1 x.f1.length c1], rfl, rfl, ⟨A1, c1, rfl, l1, g1⟩⟩
theorem k224_mkM (w : World) (base : Nat) (ok : Nat → Prop) (x : S224) {v1 : Value} (g1 : k221.R 221 w base ok v1 x.f1) : k224.M w base ok x [.int .i64 x.f0, v1] := ⟨[.int .i64 x.f0], [v1], rfl, rfl, ⟨v1, rfl, g1⟩⟩
theorem k224_openF {W : World} {ok : Nat → Prop} {x : S224} {cs : List Value} (h : Kd.FK k224 W ok x cs) : ∃ A1 c1, cs = [.int .i64 x.f0, .slice A1 x.f1.length c1] ∧ x.f1.length ≤ c1 ∧ Kd.F k221 W ok A1 x.f1.length x.f1 := by
  obtain ⟨A1, c1, rfl, l1, _⟩ := k224_open (Kd.FK_now h)
  exact ⟨A1, c1, rfl, l1, (fun W' hW => by obtain ⟨A1_, c1_, he, l1_, g1_⟩ := k224_open (h W' hW); injection (Option.some.inj (show some (Value.slice A1 x.f1.length c1) = some (Value.slice A1_ x.f1.length c1_) from congrArg (fun l => l[1]?) he)) with ha_ _ _; rw [ha_]; exact g1_)⟩
theorem k224_mkF (W : World) (ok : Nat → Prop) (x : S224) {A1 : Option Addr} {c1 : Nat} (l1 : x.f1.length ≤ c1) (g1 : Kd.F k221 W ok A1 x.f1.length x.f1) : Kd.FK k224 W ok x [.int .i64 x.f0, .slice A1 x.f1.length c1] := fun W2 hW => k224_mk W2 x l1 (g1 W2 hW)
def rd_T224 (xs : List S224) (i : Int) : S224 := xs.getD i.toNat z224
theorem at_T224 {w : World} {A : Option Addr} {n : Nat} {xs : List S224} (h : Kd.C k224 w A n xs) (i : Int) (h0 : 0 ≤ i) (h1 : i < n) : ∃ ad A1 c1, A = some ad ∧ w.cell? (ad.add (i.toNat * 2)) = some (.int .i64 (rd_T224 xs i).f0) ∧ w.cell? ⟨(ad.add (i.toNat * 2)).block, (ad.add (i.toNat * 2)).off + 1, none⟩ = some (.slice A1 (rd_T224 xs i).f1.length c1) ∧ (rd_T224 xs i).f1.length ≤ c1 ∧ k221.C w A1 (rd_T224 xs i).f1.length (rd_T224 xs i).f1 := by
  obtain ⟨ad, c, e, _, hK, hc0⟩ := Kd.C_get h z224 i h0 h1
  have hc : ∀ j u, c[j]? = some u → w.cell? (ad.add (i.toNat * 2 + j)) = some u := hc0
  obtain ⟨A1, c1, rfl, l1, g1⟩ := k224_open hK
  exact ⟨ad, A1, c1, e, hc 0 _ rfl, by rw [← add_field _ _ 1 (by omega)]; exact hc 1 _ rfl, l1, g1⟩

def rd_L8 (xs : List (List Int)) (i : Int) : (List Int) := xs.getD i.toNat ([] : List Int)
theorem at_L8 {w : World} {A : Option Addr} {n : Nat} {xs : List (List Int)} (h : Kd.C (Kd.slice 150 (Kd.int .u64)) w A n xs) (i : Int) (h0 : 0 ≤ i) (h1 : i < n) : ∃ ad A0 c0, A = some ad ∧ w.cell? (ad.add i.toNat) = some (.slice A0 (rd_L8 xs i).length c0) ∧ (rd_L8 xs i).length ≤ c0 ∧ (Kd.int .u64).C w A0 (rd_L8 xs i).length (rd_L8 xs i) := by
  obtain ⟨ad, c, e, _, hK, hc0⟩ := Kd.C_get h ([] : List Int) i h0 h1
  have hc : ∀ j u, c[j]? = some u → w.cell? (ad.add (i.toNat * 1 + j)) = some u := hc0
  obtain ⟨A0, c0, rfl, l0, g0⟩ := hK
  exact ⟨ad, A0, c0, e, by have hq := hc 0 _ rfl; rwa [Nat.mul_one, Nat.add_zero] at hq, l0, g0⟩

def rd_L10 (xs : List (List Int)) (i : Int) : (List Int) := xs.getD i.toNat ([] : List Int)
theorem at_L10 {w : World} {A : Option Addr} {n : Nat} {xs : List (List Int)} (h : Kd.C (Kd.slice 5 (Kd.int .u8)) w A n xs) (i : Int) (h0 : 0 ≤ i) (h1 : i < n) : ∃ ad A0 c0, A = some ad ∧ w.cell? (ad.add i.toNat) = some (.slice A0 (rd_L10 xs i).length c0) ∧ (rd_L10 xs i).length ≤ c0 ∧ (Kd.int .u8).C w A0 (rd_L10 xs i).length (rd_L10 xs i) := by
  obtain ⟨ad, c, e, _, hK, hc0⟩ := Kd.C_get h ([] : List Int) i h0 h1
  have hc : ∀ j u, c[j]? = some u → w.cell? (ad.add (i.toNat * 1 + j)) = some u := hc0
  obtain ⟨A0, c0, rfl, l0, g0⟩ := hK
  exact ⟨ad, A0, c0, e, by have hq := hc 0 _ rfl; rwa [Nat.mul_one, Nat.add_zero] at hq, l0, g0⟩

/-! #### struct type 98 -/
structure S98 where
  f0 : Int
  f1 : (List Int)
def z98 : S98 := ⟨(0 : Int), ([] : List Int)⟩
def k98 : Kd S98 := Kd.iso (Kd.pair (Kd.int .i64) (Kd.slice 5 (Kd.int .u8))) (fun x : S98 => (x.f0, x.f1))
theorem k98_open {w : World} {x : S98} {cs : List Value} (h : k98.K w x cs) : ∃ A1 c1, cs = [.int .i64 x.f0, .slice A1 x.f1.length c1] ∧ x.f1.length ≤ c1 ∧ (Kd.int .u8).C w A1 x.f1.length x.f1 := by
  obtain ⟨_, _, rfl, rfl, ⟨A1, c1, rfl, l1, g1⟩⟩ := h
  exact ⟨A1, c1, rfl, l1, g1⟩
theorem k98_openM {w : World} {base : Nat} {ok : Nat → Prop} {x : S98} {cs : List Value} (h : k98.M w base ok x cs) : ∃ v1, cs = [.int .i64 x.f0, v1] ∧ (Kd.int .u8).R 5 w base ok v1 x.f1 := by
  obtain ⟨_, _, rfl, rfl, ⟨v1, rfl, g1⟩⟩ := h
  exact ⟨v1, rfl, g1⟩
theorem k98_mk (w : World) (x : S98) {A1 : Option Addr} {c1 : Nat} (l1 : x.f1.length ≤ c1) (g1 : (Kd.int .u8).C w A1 x.f1.length x.f1) : k98.K w x [.int .i64 x.f0, .slice A1 x.f1.length c1] := ⟨[.int .i64 x.f0], [.slice A1 x.f1.length c1], rfl, rfl, ⟨A1, c1, rfl, l1, g1⟩⟩
theorem k98_mkM (w : World) (base : Nat) (ok : Nat → Prop) (x : S98) {v1 : Value} (g1 : (Kd.int .u8).R 5 w base ok v1 x.f1) : k98.M w base ok x [.int .i64 x.f0, v1] := ⟨[.int .i64 x.f0], [v1], rfl, rfl, ⟨v1, rfl, g1⟩⟩
theorem k98_openF {W : World} {ok : Nat → Prop} {x : S98} {cs : List Value} (h : Kd.FK k98 W ok x cs) : ∃ A1 c1, cs = [.int .i64 x.f0, .slice A1 x.f1.length c1] ∧ x.f1.length ≤ c1 ∧ Kd.F (Kd.int .u8) W ok A1 x.f1.length x.f1 := by
  obtain ⟨A1, c1, rfl, l1, _⟩ := k98_open (Kd.FK_now h)
  exact ⟨A1, c1, rfl, l1, (fun W' hW => by obtain ⟨A1_, c1_, he, l1_, g1_⟩ := k98_open (h W' hW); injection (Option.some.inj (show some (Value.slice A1 x.f1.length c1) = some (Value.slice A1_ x.f1.length c1_) from congrArg (fun l => l[1]?) he)) with ha_ _ _; rw [ha_]; exact g1_)⟩
theorem k98_mkF (W : World) (ok : Nat → Prop) (x : S98) {A1 : Option Addr} {c1 : Nat} (l1 : x.f1.length ≤ c1) (g1 : Kd.F (Kd.int .u8) W ok A1 x.f1.length x.f1) : Kd.FK k98 W ok x [.int .i64 x.f0, .slice A1 x.f1.length c1] := fun W2 hW => k98_mk W2 x l1 (g1 W2 hW)
def rd_T98 (xs : List S98) (i : Int) : S98 := xs.getD i.toNat z98
theorem at_T98 {w : World} {A : Option Addr} {n : Nat} {xs : List S98} (h : Kd.C k98 w A n xs) (i : Int) (h0 : 0 ≤ i) (h1 : i < n) : ∃ ad A1 c1, A = some ad ∧ w.cell? (ad.add (i.toNat * 2)) = some (.int .i64 (rd_T98 xs i).f0) ∧ w.cell? ⟨(ad.add (i.toNat * 2)).block, (ad.add (i.toNat * 2)).off + 1, none⟩ = some (.slice A1 (rd_T98 xs i).f1.length c1) ∧ (rd_T98 xs i).f1.length ≤ c1 ∧ (Kd.int .u8).C w A1 (rd_T98 xs i).f1.length (rd_T98 xs i).f1 := by
  obtain ⟨ad, c, e, _, hK, hc0⟩ := Kd.C_get h z98 i h0 h1
  have hc : ∀ j u, c[j]? = some u → w.cell? (ad.add (i.toNat * 2 + j)) = some u := hc0
  obtain ⟨A1, c1, rfl, l1, g1⟩ := k98_open hK
  exact ⟨ad, A1, c1, e, hc 0 _ rfl, by rw [← add_field _ _ 1 (by omega)]; exact hc 1 _ rfl, l1, g1⟩

end Go.Proofs.YtgccjgpdjkhpdaaGreat.F
