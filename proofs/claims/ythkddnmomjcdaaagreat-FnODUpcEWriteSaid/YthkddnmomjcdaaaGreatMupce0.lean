import Derived.Test.YthkddnmomjcdaaaGreatF0
import Derived.Test.YthkddnmomjcdaaaGreatF97
import Derived.Test.YthkddnmomjcdaaaGreatF16
import Derived.Test.YthkddnmomjcdaaaGreatF17
import Derived.Laws.BitsAllLaws
import Derived.Test.YthkddnmomjcdaaaGreatF25
import Derived.Test.YthkddnmomjcdaaaGreatF14
import Derived.Lib.Strings
import Derived.Test.YthkddnmomjcdaaaGreatF145
import Derived.Laws.RangeAny
import Derived.Laws.Runes
import Derived.Test.YthkddnmomjcdaaaGreatF63
import Derived.Test.YthkddnmomjcdaaaGreatF163
import Derived.Test.YthkddnmomjcdaaaGreatF164
import Derived.Test.YthkddnmomjcdaaaGreatF165
import Derived.Test.YthkddnmomjcdaaaGreatF66
import Derived.Test.YthkddnmomjcdaaaGreatF68
import Derived.Test.YthkddnmomjcdaaaGreatF42
import Derived.Test.YthkddnmomjcdaaaGreatF43
import Derived.Laws.CopyRow
import Derived.Laws.CopyOwn
import Derived.Test.YthkddnmomjcdaaaGreatF169
import Derived.Test.YthkddnmomjcdaaaGreatF69
import Derived.Test.YthkddnmomjcdaaaGreatF41
import Derived.Lib.SlBytesConst
import Derived.Test.YthkddnmomjcdaaaGreatF181
import Derived.Test.YthkddnmomjcdaaaGreatF182
import Derived.IntWalk
namespace Go.Proofs.YthkddnmomjcdaaaGreat.B
open Go.RowKit Go.Proofs.YthkddnmomjcdaaaGreatW.PrintWords Go.Proofs.YthkddnmomjcdaaaGreatW.PrintLast Go.Proofs.YthkddnmomjcdaaaGreatW.PrintMore
set_option linter.unusedVariables false
set_option linter.unusedSimpArgs false

/-- Block g is just the cells cs of element type t, none frozen. -/
def Blk (w : World) (g : Nat) (t : TypeId) (cs : Array Value) : Prop := w.heap[g]? = some (.cells cs t (0, 0))
theorem Blk.cell {w : World} {g : Nat} {t : TypeId} {cs : Array Value} (h : Blk w g t cs) (i : Nat) : w.cell? ⟨g, i, none⟩ = cs[i]? := blk_cell h i
theorem Blk.frozen {w : World} {g : Nat} {t : TypeId} {cs : Array Value} (h : Blk w g t cs) (i : Nat) : w.frozen? ⟨g, i, none⟩ = false := blk_frozen h i
theorem Blk.lt {w : World} {g : Nat} {t : TypeId} {cs : Array Value} (h : Blk w g t cs) : g < w.heap.size := blk_lt h
theorem Blk.ucell {w : World} {g : Nat} {t : TypeId} {k : IntKind} {xs : List Int} (h : Blk w g t (nums k xs).toArray) (i : Int) (h0 : 0 ≤ i) (h1 : i < xs.length) : w.cell? ⟨g, i.toNat, none⟩ = some (.int k (rd xs i)) := by
  rw [h.cell]
  simp [nums, rd, List.getD, List.getElem?_eq_getElem (show i.toNat < xs.length by omega)]
theorem Blk.uset {w : World} {g : Nat} {t : TypeId} {k : IntKind} {xs : List Int} (h : Blk w g t (nums k xs).toArray) (i : Nat) (v : Int) : Blk (w.setCell ⟨g, i, none⟩ (.int k v)) g t (nums k (xs.set i v)).toArray := by
  have := blk_set h i (.int k v)
  unfold Blk
  rw [this]
  simp [nums, List.map_set]
theorem Blk.far {w : World} {g : Nat} {t : TypeId} {cs : Array Value} (h : Blk w g t cs) {p : Addr} (hp : g ≠ p.block) (u : Value) : Blk (w.setCell p u) g t cs := blk_far h hp u
theorem Blk.alloc {w : World} {g : Nat} {t : TypeId} {cs : Array Value} (h : Blk w g t cs) (o : Obj) : Blk (w.alloc o) g t cs := blk_alloc h o
theorem Blk.below {w w' : World} {g : Nat} {t : TypeId} {cs : Array Value} {B : Nat} (h : Blk w g t cs) (hb : Below B w w') (hg : g < B) : Blk w' g t cs := (hb.block g hg).trans h
theorem Blk.new (w : World) (t : TypeId) (cs : Array Value) : Blk (w.alloc (.cells cs t)) w.heap.size t cs := heap_alloc_new w _

theorem run_make_rowN {P : Program} (t e : TypeId) (i : TypeInfo) (z : Value) (ht : P.underlying t = some (.slice e)) (hi : P.info? e = some i) (hz : i.zero = some z)
    (kl kc : IntKind) (n c : Nat) (hnc : n ≤ c) (hbytes : i.bytes * c ≤ 281474976710656) (h63 : c ≤ 9223372036854775807) (w : World) :
    (Instr.makeSlice t (.int kl (n : Int)) (.int kc (c : Int))).run P w = .ok (.slice (some ⟨w.heap.size, 0, none⟩) n c) (w.alloc (.cells (madeCells z.cells (c * i.size)) e)) := by
  have hb : (i.bytes : Int) * (c : Int) ≤ 281474976710656 := by
    have h : ((i.bytes * c : Nat) : Int) ≤ 281474976710656 := by omega
    rwa [Int.natCast_mul] at h
  have hr := run_make (P := P) w t e i z ht hi hz kl kc n c (by omega) (by omega) hb (by omega)
  simp only [Int.toNat_natCast] at hr
  exact hr
/-- make([]uint32, n) -/
theorem make_u32 (n : Nat) (h : n ≤ 1000000000) (w : World) : (Instr.makeSlice 73 (.int .i64 (n : Int)) (.int .i64 (n : Int))).run Tryz.prog w = .ok (.slice (some ⟨w.heap.size, 0, none⟩) n n) (w.alloc (.cells (nums .u32 (List.replicate n 0)).toArray 78)) := by
  obtain ⟨i, hi, hz, hs, hb⟩ := info_parts F.info78
  have := run_make_rowN (P := Tryz.prog) 73 78 i (.int .u32 0) Tryz.underlying73 hi hz .i64 .i64 n n (Nat.le_refl _) (by rw [hb]; omega) (by omega) w
  have e : madeCells (Value.int .u32 0).cells (n * 1) = (nums .u32 (List.replicate n 0)).toArray := by
    apply Array.toList_inj.1
    rw [Nat.mul_one]
    exact (toList_madeCells_one _ _).trans (by simp [nums])
  rw [this, hs, e]

theorem newBM (w : World) (wd ht rs : Int) (N : Nat) (h1 : 1 ≤ wd) (h2 : 1 ≤ ht) (h3 : wd ≤ 100000000) (hrs : (wd + 31) / 32 = rs) (hn : rs * ht = (N : Int)) (hN : N ≤ 1000000000) :
    Calls Tryz.prog 104 #[.int .i64 wd, .int .i64 ht] w fun e w' => e = .returned (.tuple #[.pointer (some ⟨w.heap.size + 1, 0, none⟩), .nilIface]) ∧
      w' = (w.alloc (.cells (nums .u32 (List.replicate N 0)).toArray 78)).alloc (.cells #[.int .i64 wd, .int .i64 ht, .int .i64 rs, .slice (some ⟨w.heap.size, 0, none⟩) N N] 75) := by
  have hmk := make_u32 N hN
  have a1 : ¬ wd < 1 := by omega
  have a2 : ¬ ht < 1 := by omega
  have a3 : wrap64 (rs * ht) = (N : Int) := by rw [hn]; unfold wrap64; omega
  go_enter Tryz.func104, Tryz.ntmps104
  go_wp2
  go_ret2
  exact ⟨rfl, rfl⟩

/-- make of an array of words for so many bits -/
theorem mkArray (w : World) (n : Int) (N : Nat) (h0 : 0 ≤ n) (h1 : n ≤ 100000000) (hN : (n + 31) / 32 = (N : Int)) :
    Calls Tryz.prog 72 #[.int .i64 n] w fun e w' => e = .returned (.slice (some ⟨w.heap.size, 0, none⟩) N N) ∧ w' = w.alloc (.cells (nums .u32 (List.replicate N 0)).toArray 78) := by
  have hmk := make_u32 N (by omega)
  go_enter Tryz.func72, Tryz.ntmps72
  go_wp2
  go_ret
  exact ⟨rfl, rfl⟩

theorem newBA (w : World) (n : Int) (N : Nat) (h0 : 0 ≤ n) (h1 : n ≤ 100000000) (hN : (n + 31) / 32 = (N : Int)) :
    Calls Tryz.prog 59 #[.int .i64 n] w fun e w' => e = .returned (.pointer (some ⟨w.heap.size + 1, 0, none⟩)) ∧
      w' = (w.alloc (.cells (nums .u32 (List.replicate N 0)).toArray 78)).alloc (.cells #[.slice (some ⟨w.heap.size, 0, none⟩) N N, .int .i64 n] 100) := by
  have Hn := Aside0.mk hN
  clear hN
  go_enter Tryz.func59, Tryz.ntmps59
  go_wp2_with (go_at_call 72; refine (mkArray _ _ N h0 h1 Hn.out).mono ?_; rintro e w' ⟨rfl, rfl⟩)
  go_ret
  exact ⟨rfl, rfl⟩

/-- b.bits[i / 32] = v -/
theorem setBulk (w : World) (g gb : Nat) (n : Int) (xs : List Int) (N : Nat) (i v : Int) (hg : Blk w g 100 #[.slice (some ⟨gb, 0, none⟩) N N, .int .i64 n]) (hb : Blk w gb 78 (nums .u32 xs).toArray) (hN : xs.length = N) (hN2 : N ≤ 1000000000) (h0 : 0 ≤ i) (h1 : i / 32 < (N : Int)) :
    Calls Tryz.prog 61 #[.pointer (some ⟨g, 0, none⟩), .int .i64 i, .int .u32 v] w fun e w' => e = .returned (.tuple #[]) ∧ w' = w.setCell ⟨gb, (i / 32).toNat, none⟩ (.int .u32 v) := by
  have c0 := hg.cell 0
  have c1 : w.cell? ⟨gb, (i / 32).toNat, none⟩ = some (.int .u32 (rd xs (i / 32))) := hb.ucell (i / 32) (by omega) (by omega)
  have c2 := hb.frozen (i / 32).toNat
  have b0 : 0 ≤ i / 32 := by omega
  simp only [List.getElem?_toArray, List.getElem?_cons_zero] at c0
  clear hN
  go_enter Tryz.func61, Tryz.ntmps61
  go_wp2
  go_end0
  exact ⟨rfl, rfl⟩

/-- Just the block gb has turned. -/
structure Turn (w w' : World) (gb : Nat) : Prop where
  os : w'.os = w.os
  tape : w'.tape = w.tape
  output : w'.output = w.output
  size : w'.heap.size = w.heap.size
  block : ∀ k, k ≠ gb → w'.heap[k]? = w.heap[k]?
theorem Turn.refl (w : World) (gb : Nat) : Turn w w gb := ⟨rfl, rfl, rfl, rfl, fun _ _ => rfl⟩
theorem Turn.trans {a b c : World} {gb : Nat} (h : Turn a b gb) (k : Turn b c gb) : Turn a c gb := ⟨k.os.trans h.os, k.tape.trans h.tape, k.output.trans h.output, k.size.trans h.size, fun i hi => (k.block i hi).trans (h.block i hi)⟩
theorem Turn.set (w : World) (gb i : Nat) (u : Value) : Turn w (w.setCell ⟨gb, i, none⟩ u) gb := ⟨rfl, rfl, rfl, by simp [World.setCell], fun k hk => Below.heap_setCell w _ u k hk⟩
theorem Turn.blk {w w' : World} {gb g : Nat} {t : TypeId} {cs : Array Value} (h : Turn w w' gb) (hb : Blk w g t cs) (hne : g ≠ gb) : Blk w' g t cs := (h.block g hne).trans hb
theorem Turn.below {w w' : World} {gb B : Nat} (h : Turn w w' gb) (hB : B ≤ gb) : Below B w w' := ⟨h.os, h.tape, h.output, by rw [h.size]; exact Nat.le_refl _, fun k hk => h.block k (by omega)⟩

/-- The bit x of a row of bits from the word o on is set. -/
def orBit (xs : List Int) (o x : Int) : List Int := xs.set (o + x / 32).toNat (Go.bits .or .u32 (rd xs (o + x / 32)) (2 ^ (x % 32).toNat % 4294967296))
def sregX (xs : List Int) (o left : Int) : Nat → List Int
  | 0 => xs
  | n + 1 => orBit (sregX xs o left n) o (left + n)
def sreg (xs : List Int) (rs left : Int) (n : Nat) (top : Int) : Nat → List Int
  | 0 => xs
  | m + 1 => sregX (sreg xs rs left n top m) ((top + m) * rs) left n
theorem orBit_length (xs : List Int) (o x : Int) : (orBit xs o x).length = xs.length := by simp [orBit]
theorem sregX_length (xs : List Int) (o left : Int) (n : Nat) : (sregX xs o left n).length = xs.length := by
  induction n with
  | zero => rfl
  | succ n ih => rw [sregX, orBit_length, ih]
theorem sreg_length (xs : List Int) (rs left : Int) (n : Nat) (top : Int) (m : Nat) : (sreg xs rs left n top m).length = xs.length := by
  induction m with
  | zero => rfl
  | succ m ih => rw [sreg, sregX_length, ih]
theorem sregX_step (xs : List Int) (o left x : Int) (h : left ≤ x) : sregX xs o left (x + 1 - left).toNat = orBit (sregX xs o left (x - left).toNat) o x := by
  rw [show (x + 1 - left).toNat = (x - left).toNat + 1 by omega, sregX, show left + ((x - left).toNat : Int) = x by omega]
theorem sreg_step (xs : List Int) (rs left : Int) (n : Nat) (top y : Int) (h : top ≤ y) : sreg xs rs left n top (y + 1 - top).toNat = sregX (sreg xs rs left n top (y - top).toNat) (y * rs) left n := by
  rw [show (y + 1 - top).toNat = (y - top).toNat + 1 by omega, sreg, show top + ((y - top).toNat : Int) = y by omega]

set_option maxHeartbeats 1000000 in
theorem setRegion (w : World) (g gb : Nat) (wd ht rs left top n m : Int) (xs : List Int) (N : Nat)
    (hg : Blk w g 75 #[.int .i64 wd, .int .i64 ht, .int .i64 rs, .slice (some ⟨gb, 0, none⟩) N N]) (hb : Blk w gb 78 (nums .u32 xs).toArray) (hl : xs.length = N) (hN : N ≤ 1000000000)
    (hrs : (wd + 31) / 32 = rs) (hn : rs * ht = (N : Int)) (h0 : 0 ≤ left) (h1 : 0 ≤ top) (h2 : 1 ≤ n) (h3 : 1 ≤ m) (h4 : left + n ≤ wd) (h5 : top + m ≤ ht) (h6 : wd ≤ 100000000) (h7 : ht ≤ 100000000) :
    Calls Tryz.prog 106 #[.pointer (some ⟨g, 0, none⟩), .int .i64 left, .int .i64 top, .int .i64 n, .int .i64 m] w fun e w' => e = .returned .nilIface ∧
      Blk w' gb 78 (nums .u32 (sreg xs rs left n.toNat top m.toNat)).toArray ∧ Turn w w' gb := by
  have hne : g ≠ gb := blk_ne hg hb (by decide)
  have c0 : w.cell? ⟨g, 0, none⟩ = some (.int .i64 wd) := hg.cell 0
  have c1 : w.cell? ⟨g, 1, none⟩ = some (.int .i64 ht) := hg.cell 1
  have HG := Aside0.mk hg
  have HB := Aside0.mk hb
  have HL := Aside0.mk hl
  have HN := Aside0.mk hn
  have HR := Aside0.mk hrs
  clear hg hb hl hn hrs
  go_enter Tryz.func106, Tryz.ntmps106
  go_wp2
  go_loopw [13] (fun v wr => ∃ y : Int, top ≤ y ∧ y ≤ top + m ∧ v = .int .i64 y ∧ Aside0 (Blk wr gb 78 (nums .u32 (sreg xs rs left n.toNat top (y - top).toNat)).toArray) ∧ Aside0 (Turn w wr gb)) (fun v _ => (top + m - intOf v).toNat)
  case atStart => exact ⟨top, by omega, by omega, rfl, ⟨by rw [show (top - top).toNat = 0 by omega]; exact HB.out⟩, ⟨Turn.refl _ _⟩⟩
  case round =>
    obtain ⟨y, hy1, hy2, rfl, HY, HT⟩ := hrel
    clear c0 c1
    by_cases hlt : y < top + m
    · have hgr := HT.out.blk HG.out hne
      have c2 : wr.cell? ⟨g, 2, none⟩ = some (.int .i64 rs) := hgr.cell 2
      clear hgr
      obtain ⟨o, ho⟩ : ∃ o, y * rs = o := ⟨_, rfl⟩
      have ho1 : 0 ≤ o ∧ o + rs ≤ N := by
        have hr0 : 0 ≤ rs := by have := HR.out; omega
        have hq := HN.out
        have e1 := Int.mul_le_mul_of_nonneg_right (show y + 1 ≤ ht by omega) hr0
        have e2 : (y + 1) * rs = y * rs + rs := by rw [Int.add_mul, Int.one_mul]
        have e3 : ht * rs = rs * ht := Int.mul_comm _ _
        have e4 := Int.mul_nonneg (show 0 ≤ y by omega) hr0
        omega
      obtain ⟨ho1, ho2⟩ := ho1
      have hr0 : 0 ≤ rs := by have := HR.out; omega
      have how : wrap64 (y * rs) = o := by rw [ho]; unfold wrap64; omega
      have HO := Aside0.mk ho
      clear ho
      obtain ⟨ys, hys⟩ : ∃ ys, sreg xs rs left n.toNat top (y - top).toNat = ys := ⟨_, rfl⟩
      have hyl : ys.length = N := by rw [← hys, sreg_length, HL.out]
      rw [hys] at HY
      have HYS := Aside0.mk hys
      have HYL := Aside0.mk hyl
      clear hys hyl
      go_wp2
      obtain ⟨wo, rfl⟩ : ∃ wo : World, wo = wr := ⟨_, rfl⟩
      clear c2
      go_loopw [15] (fun v wi => ∃ x : Int, left ≤ x ∧ x ≤ left + n ∧ v = .int .i64 x ∧ Aside0 (Blk wi gb 78 (nums .u32 (sregX ys o left (x - left).toNat)).toArray) ∧ Aside0 (Turn wo wi gb)) (fun v _ => (left + n - intOf v).toNat)
      case atStart => exact ⟨left, by omega, by omega, rfl, ⟨by rw [show (left - left).toNat = 0 by omega]; exact HY.out⟩, ⟨Turn.refl _ _⟩⟩
      case round =>
        obtain ⟨x, hx1, hx2, rfl, HX, HU⟩ := hrel
        by_cases hlx : x < left + n
        · have hgr := HU.out.blk (HT.out.blk HG.out hne) hne
          have c3 : wr.cell? ⟨g, 3, none⟩ = some (.slice (some ⟨gb, 0, none⟩) N N) := hgr.cell 3
          clear hgr
          obtain ⟨zs, hzs⟩ : ∃ zs, sregX ys o left (x - left).toNat = zs := ⟨_, rfl⟩
          have hzl : zs.length = N := by rw [← hzs, sregX_length, HYL.out]
          rw [hzs] at HX
          have b0 : 0 ≤ o + x / 32 := by omega
          have b1 : o + x / 32 < (N : Int) := by have := HR.out; omega
          have c4 : wr.cell? ⟨gb, (o + x / 32).toNat, none⟩ = some (.int .u32 (rd zs (o + x / 32))) := HX.out.ucell _ b0 (by omega)
          have c5 := HX.out.frozen (o + x / 32).toNat
          have HZ := Aside0.mk hzs
          clear hzs hzl
          go_wp2
          go_roundw
          case rel => exact ⟨x + 1, by omega, by omega, by go_num, ⟨by rw [sregX_step _ _ _ _ hx1, HZ.out]; exact HX.out.uset _ _⟩, ⟨HU.out.trans (Turn.set _ _ _ _)⟩⟩
          case measure => simp [intOf]; omega
        · have : x = left + n := by omega
          subst this
          go_wp2
          go_roundw
          case rel => exact ⟨y + 1, by omega, by omega, by go_num, ⟨by rw [sreg_step _ _ _ _ _ _ hy1, HYS.out, HO.out]; have := HX.out; rwa [show (left + n - left).toNat = n.toNat by omega] at this⟩, ⟨HT.out.trans HU.out⟩⟩
          case measure => simp [intOf]; omega
    · have : y = top + m := by omega
      subst this
      go_wp2
      go_ret
      refine ⟨rfl, ?_, HT.out⟩
      have := HY.out
      rwa [show (top + m - top).toNat = m.toNat by omega] at this

/-- A row of bits as it is copied, word by word. -/
def cpy (xs ys : List Int) (o : Int) : Nat → List Int
  | 0 => ys
  | n + 1 => (cpy xs ys o n).set n (rd xs (o + n))
theorem cpy_length (xs ys : List Int) (o : Int) (n : Nat) : (cpy xs ys o n).length = ys.length := by
  induction n with
  | zero => rfl
  | succ n ih => rw [cpy, List.length_set, ih]

set_option maxHeartbeats 1000000 in
theorem getRow (w : World) (g gb : Nat) (wd ht rs y : Int) (xs : List Int) (N R : Nat)
    (hg : Blk w g 75 #[.int .i64 wd, .int .i64 ht, .int .i64 rs, .slice (some ⟨gb, 0, none⟩) N N]) (hb : Blk w gb 78 (nums .u32 xs).toArray) (hl : xs.length = N) (hN : N ≤ 1000000000)
    (hrs : (wd + 31) / 32 = rs) (hR : rs = (R : Int)) (hn : rs * ht = (N : Int)) (h1 : 0 ≤ y) (h5 : y < ht) (h0 : 0 ≤ wd) (h6 : wd ≤ 100000000) :
    Calls Tryz.prog 31 #[.pointer (some ⟨g, 0, none⟩), .int .i64 y, .pointer none] w fun e w' => e = .returned (.pointer (some ⟨w.heap.size + 1, 0, none⟩)) ∧
      Blk w' w.heap.size 78 (nums .u32 (cpy xs (List.replicate R 0) (y * rs) R)).toArray ∧ Blk w' (w.heap.size + 1) 100 #[.slice (some ⟨w.heap.size, 0, none⟩) R R, .int .i64 wd] ∧ Below w.heap.size w w' ∧ w'.heap.size = w.heap.size + 2 := by
  have c0 : w.cell? ⟨g, 0, none⟩ = some (.int .i64 wd) := hg.cell 0
  have HG := Aside0.mk hg
  have HB := Aside0.mk hb
  have HL := Aside0.mk hl
  have HN := Aside0.mk hn
  have HR := Aside0.mk hrs
  have HR2 := Aside0.mk hR
  clear hg hb hl hn hrs hR
  go_enter Tryz.func31, Tryz.ntmps31
  go_wp2
  go_quiet (fail)
  go_wp2_with fail
  refine (newBA _ _ R h0 h6 (by rw [HR.out, HR2.out])).mono ?_
  rintro e w1 ⟨rfl, hw1⟩
  have hne := blk_ne HG.out HB.out (by decide)
  have hbw : Below w.heap.size w w1 := by rw [hw1]; exact below_alloc (below_alloc (pw_below_drewN (Below.refl _ _) _) _) _
  have bg := HG.out.below hbw HG.out.lt
  have bb := HB.out.below hbw HB.out.lt
  have b1 : Blk w1 w.heap.size 78 (nums .u32 (List.replicate R 0)).toArray := by rw [hw1]; exact Blk.alloc (Blk.new (w.drewN nq) _ _) _
  have b2 : Blk w1 (w.heap.size + 1) 100 #[.slice (some ⟨w.heap.size, 0, none⟩) R R, .int .i64 wd] := by
    rw [hw1]
    have := Blk.new ((w.drewN nq).alloc (.cells (nums .u32 (List.replicate R 0)).toArray 78)) 100 #[.slice (some ⟨w.heap.size, 0, none⟩) R R, .int .i64 wd]
    simpa using this
  have hsz : w1.heap.size = w.heap.size + 2 := by rw [hw1]; simp
  have c2 : w1.cell? ⟨g, 2, none⟩ = some (.int .i64 rs) := bg.cell 2
  clear hw1 c0
  obtain ⟨o, ho⟩ : ∃ o, y * rs = o := ⟨_, rfl⟩
  have hr0 : 0 ≤ rs := by have := HR.out; omega
  have ho1 : 0 ≤ o ∧ o + rs ≤ N := by
    have hq := HN.out
    have e1 := Int.mul_le_mul_of_nonneg_right (show y + 1 ≤ ht by omega) hr0
    have e2 : (y + 1) * rs = y * rs + rs := by rw [Int.add_mul, Int.one_mul]
    have e3 : ht * rs = rs * ht := Int.mul_comm _ _
    have e4 := Int.mul_nonneg h1 hr0
    omega
  obtain ⟨ho1, ho2⟩ := ho1
  have how : wrap64 (y * rs) = o := by rw [ho]; unfold wrap64; omega
  have BG := Aside0.mk bg
  have BB := Aside0.mk bb
  have B1 := Aside0.mk b1
  have B2 := Aside0.mk b2
  have BW := Aside0.mk hbw
  have SZ := Aside0.mk hsz
  have OO := Aside0.mk ho
  clear bg bb b1 b2 hbw hsz ho
  have hlt : g < w.heap.size := HG.out.lt
  have hlt2 : gb < w.heap.size := HB.out.lt
  go_wp2
  simp only [how]
  clear c2 how
  go_loopw [8] (fun v wr => ∃ n : Nat, n ≤ R ∧ v = .int .i64 n ∧ Aside0 (Blk wr w.heap.size 78 (nums .u32 (cpy xs (List.replicate R 0) o n)).toArray) ∧ Aside0 (Turn w1 wr w.heap.size)) (fun v _ => R - (intOf v).toNat)
  case atStart => exact ⟨0, by omega, rfl, B1, ⟨Turn.refl _ _⟩⟩
  case round =>
    obtain ⟨n, hn, rfl, HX, HU⟩ := hrel
    have hRr : (R : Int) = rs := HR2.out.symm
    have hgr := HU.out.blk BG.out (by omega)
    have hbr := HU.out.blk BB.out (by omega)
    have har := HU.out.blk B2.out (by omega)
    have c2 : wr.cell? ⟨g, 2, none⟩ = some (.int .i64 rs) := hgr.cell 2
    have c3 : wr.cell? ⟨g, 3, none⟩ = some (.slice (some ⟨gb, 0, none⟩) N N) := hgr.cell 3
    clear hgr
    have RR := Aside0.mk hRr
    clear hRr
    by_cases hlx : (n : Int) < rs
    · have b0 : 0 ≤ o + (n : Int) := by omega
      have b1 : o + (n : Int) < (N : Int) := by omega
      have c4 : wr.cell? ⟨gb, (o + (n : Int)).toNat, none⟩ = some (.int .u32 (rd xs (o + n))) := hbr.ucell _ b0 (by have := HL.out; omega)
      have HAR := Aside0.mk har
      clear har hbr
      have hw32 : ((n : Int) * 32 / 32).toNat = n := by omega
      have H32 := Aside0.mk hw32
      clear hw32
      go_wp2_with fail
      refine (setBulk wr (w.heap.size + 1) w.heap.size wd _ R ((n : Int) * 32) _ HAR.out HX.out (by rw [cpy_length, List.length_replicate]) (by have := RR.out; omega) (by omega) (by have := RR.out; omega)).mono ?_
      rintro e w2 ⟨rfl, hw2⟩
      rw [H32.out] at hw2
      subst hw2
      go_wp2
      go_roundw
      case rel => exact ⟨n + 1, by have := RR.out; omega, by go_num, ⟨by rw [cpy]; exact HX.out.uset _ _⟩, ⟨HU.out.trans (Turn.set _ _ _ _)⟩⟩
      case measure => simp [intOf]; have := RR.out; omega
    · have : (n : Int) = rs := by have := RR.out; omega
      clear c3
      go_wp2
      go_ret
      refine ⟨rfl, ?_, HU.out.blk B2.out (by omega), BW.out.trans (HU.out.below (Nat.le_refl _)), HU.out.size.trans SZ.out⟩
      have e : n = R := by have := RR.out; omega
      rw [OO.out, ← e]
      exact e ▸ HX.out

theorem Blk.bcell {w : World} {g : Nat} {t : TypeId} {xs : List Bool} (h : Blk w g t (bools xs).toArray) (i : Int) (h0 : 0 ≤ i) (h1 : i < xs.length) : w.cell? ⟨g, i.toNat, none⟩ = some (.bool (rdOf false xs i)) := by
  rw [h.cell]
  simp [bools, rdOf, List.getD, List.getElem?_eq_getElem (show i.toNat < xs.length by omega)]
theorem Blk.bset {w : World} {g : Nat} {t : TypeId} {xs : List Bool} (h : Blk w g t (bools xs).toArray) (i : Nat) (v : Bool) : Blk (w.setCell ⟨g, i, none⟩ (.bool v)) g t (bools (xs.set i v)).toArray := by
  have := blk_set h i (.bool v)
  unfold Blk
  rw [this]
  simp [bools, List.map_set]
theorem make_bool (n : Nat) (h : n ≤ 1000000000) (w : World) : (Instr.makeSlice 27 (.int .i64 (n : Int)) (.int .i64 (n : Int))).run Tryz.prog w = .ok (.slice (some ⟨w.heap.size, 0, none⟩) n n) (w.alloc (.cells (bools (List.replicate n false)).toArray 4)) := by
  obtain ⟨i, hi, hz, hs, hb⟩ := info_parts F.info4
  have := run_make_rowN (P := Tryz.prog) 27 4 i (.bool false) Tryz.underlying27 hi hz .i64 .i64 n n (Nat.le_refl _) (by rw [hb]; omega) (by omega) w
  have e : madeCells (Value.bool false).cells (n * 1) = (bools (List.replicate n false)).toArray := by
    apply Array.toList_inj.1
    rw [Nat.mul_one]
    exact (toList_madeCells_one _ _).trans (by simp [bools])
  rw [this, hs, e]

/-- The bit x of a row of bits. -/
def bitAt (xs : List Int) (x : Int) : Bool := Go.bits .and .u32 (rd xs (x / 32)) (2 ^ (x % 32).toNat % 4294967296) != 0
theorem baSize (w : World) (g gb : Nat) (n : Int) (N : Nat) (hg : Blk w g 100 #[.slice (some ⟨gb, 0, none⟩) N N, .int .i64 n]) :
    Calls Tryz.prog 57 #[.pointer (some ⟨g, 0, none⟩)] w fun e w' => e = .returned (.int .i64 n) ∧ w = w' := by
  have c1 : w.cell? ⟨g, 1, none⟩ = some (.int .i64 n) := hg.cell 1
  go_enter Tryz.func57, Tryz.ntmps57
  go_wp2
  go_ret
  exact ⟨rfl, rfl⟩
theorem baGet (w : World) (g gb : Nat) (n : Int) (xs : List Int) (N : Nat) (i : Int) (hg : Blk w g 100 #[.slice (some ⟨gb, 0, none⟩) N N, .int .i64 n]) (hb : Blk w gb 78 (nums .u32 xs).toArray) (hN : xs.length = N) (hN2 : N ≤ 1000000000) (h0 : 0 ≤ i) (h1 : i / 32 < (N : Int)) :
    Calls Tryz.prog 58 #[.pointer (some ⟨g, 0, none⟩), .int .i64 i] w fun e w' => e = .returned (.bool (bitAt xs i)) ∧ w = w' := by
  have c0 : w.cell? ⟨g, 0, none⟩ = some (.slice (some ⟨gb, 0, none⟩) N N) := hg.cell 0
  have c1 : w.cell? ⟨gb, (i / 32).toNat, none⟩ = some (.int .u32 (rd xs (i / 32))) := hb.ucell (i / 32) (by omega) (by omega)
  have b0 : 0 ≤ i / 32 := by omega
  clear hN
  go_enter Tryz.func58, Tryz.ntmps58
  go_wp2
  go_ret
  exact ⟨rfl, rfl⟩

def unbits (xs : List Int) (n : Nat) : List Bool := (List.range n).map fun (i : Nat) => bitAt xs i
theorem unbits_set (xs : List Int) (n k : Nat) (hk : k < n) : (unbits xs k ++ List.replicate (n - k) false).set k (bitAt xs k) = unbits xs (k + 1) ++ List.replicate (n - (k + 1)) false := by
  have hl : (unbits xs k).length = k := by simp [unbits]
  rw [List.set_append_right _ _ (by omega), hl, Nat.sub_self, show n - k = (n - (k + 1)) + 1 by omega, List.replicate_succ, List.set_cons_zero]
  simp [unbits, List.range_succ]

set_option maxHeartbeats 1000000 in
theorem toBools (w : World) (g gb : Nat) (n : Nat) (xs : List Int) (N : Nat) (hg : Blk w g 100 #[.slice (some ⟨gb, 0, none⟩) N N, .int .i64 n]) (hb : Blk w gb 78 (nums .u32 xs).toArray) (hN : xs.length = N) (hN2 : N ≤ 1000000000) (h1 : n ≤ 100000000) (h2 : ((n : Int) + 31) / 32 = N) :
    Calls Tryz.prog 30 #[.pointer (some ⟨g, 0, none⟩)] w fun e w' => e = .returned (.slice (some ⟨w.heap.size, 0, none⟩) n n) ∧ Blk w' w.heap.size 4 (bools (unbits xs n)).toArray ∧ Below w.heap.size w w' := by
  have hmk := make_bool n (by omega)
  have HG := Aside0.mk hg
  have HB := Aside0.mk hb
  have HN := Aside0.mk hN
  have HH2 := Aside0.mk h2
  clear hg hb hN h2
  have hglt : g < w.heap.size := HG.out.lt
  have hblt : gb < w.heap.size := HB.out.lt
  go_enter Tryz.func30, Tryz.ntmps30
  go_wp2_with fail
  refine (baSize w g gb n N HG.out).mono ?_
  rintro e w' ⟨rfl, rfl⟩
  go_wp2
  clear hmk
  obtain ⟨w1, hw1⟩ : ∃ w1, w.alloc (.cells (bools (List.replicate n false)).toArray 4) = w1 := ⟨_, rfl⟩
  have hbw : Below w.heap.size w w1 := by rw [← hw1]; exact below_alloc (Below.refl _ _) _
  have BM := Aside0.mk (show Blk w1 w.heap.size 4 (bools (List.replicate n false)).toArray by rw [← hw1]; exact Blk.new _ _ _)
  have HBW := Aside0.mk hbw
  clear hbw
  simp only [hw1]
  clear hw1
  go_loopw [10] (fun v wr => ∃ k : Nat, k ≤ n ∧ v = .int .i64 k ∧ Aside0 (Blk wr w.heap.size 4 (bools (unbits xs k ++ List.replicate (n - k) false)).toArray) ∧ Aside0 (Turn w1 wr w.heap.size)) (fun v _ => n - (intOf v).toNat)
  case atStart => exact ⟨0, by omega, rfl, by simpa [unbits] using BM, ⟨Turn.refl _ _⟩⟩
  case round =>
    obtain ⟨k, hk, rfl, HX, HU⟩ := hrel
    by_cases hlx : k < n
    · have hgr := HU.out.blk (HG.out.below HBW.out hglt) (by omega)
      have hbr := HU.out.blk (HB.out.below HBW.out hblt) (by omega)
      have hxl : (unbits xs k ++ List.replicate (n - k) false).length = n := by simp [unbits]; omega
      have c5 := HX.out.frozen k
      have c4 := HX.out.bcell k (by omega) (by omega)
      simp only [Int.toNat_natCast] at c4
      have HGR := Aside0.mk hgr
      have HBR := Aside0.mk hbr
      clear hgr hbr hxl
      go_wp2_with fail
      refine (baGet wr g gb n xs N k HGR.out HBR.out HN.out hN2 (by omega) (by have := HH2.out; omega)).mono ?_
      rintro e w' ⟨rfl, rfl⟩
      go_wp2
      go_roundw
      case rel => exact ⟨k + 1, by omega, by go_num, ⟨by rw [← unbits_set _ _ _ hlx]; exact HX.out.bset _ _⟩, ⟨HU.out.trans (Turn.set _ _ _ _)⟩⟩
      case measure => simp [intOf]; omega
    · have : k = n := by omega
      subst this
      go_wp2
      go_ret
      refine ⟨rfl, ?_, HBW.out.trans (HU.out.below (Nat.le_refl _))⟩
      simpa using HX.out

theorem maxI (w : World) (x y : Int) : Calls Tryz.prog 103 #[.int .i64 x, .int .i64 y] w fun e w' => e = .returned (.int .i64 (if y < x then x else y)) ∧ w = w' := by
  by_cases h : y < x
  · rw [if_pos h]
    have h' : decide (y < x) = true := decide_eq_true h
    go_enter Tryz.func103, Tryz.ntmps103
    go_wp2
    go_ret
    exact ⟨rfl, rfl⟩
  · rw [if_neg h]
    have h' : decide (y < x) = false := decide_eq_false h
    go_enter Tryz.func103, Tryz.ntmps103
    go_wp2
    go_ret
    exact ⟨rfl, rfl⟩

/-- The words of a row of modules, each so many pixels wide. -/
def paint (code : List Bool) (left many : Int) (xs : List Int) : Nat → List Int
  | 0 => xs
  | n + 1 => if rdOf false code n then sreg (paint code left many xs n) (((xs.length : Int))) (left + n * many) many.toNat 0 1 else paint code left many xs n
theorem paint_length (code : List Bool) (left many : Int) (xs : List Int) (n : Nat) : (paint code left many xs n).length = xs.length := by
  induction n with
  | zero => rfl
  | succ n ih =>
    rw [paint]
    split
    · rw [sreg_length, ih]
    · exact ih

set_option maxHeartbeats 2000000 in
theorem render (w : World) (A : Option Addr) (c : Nat) (code : List Bool) (wd mg full out many left rs : Int) (R : Nat)
    (hc : Kd.C Kd.bool w A code.length code) (h0 : 0 < (code.length : Int) + mg) (hm0 : 0 ≤ mg) (hm1 : mg ≤ 1000) (hw0 : 0 ≤ wd) (hw1 : wd ≤ 100000) (hlen : code.length ≤ 100000)
    (hfull : (code.length : Int) + mg = full) (hout : (if full < wd then wd else full) = out) (hmany : out / full = many) (hleft : (out - code.length * many) / 2 = left) (hrs : (out + 31) / 32 = rs) (hR : rs = (R : Int)) :
    Calls Tryz.prog 99 #[.slice A code.length c, .int .i64 wd, .int .i64 1, .int .i64 mg] w fun e w' => e = .returned (.tuple #[.pointer (some ⟨w.heap.size + 1, 0, none⟩), .nilIface]) ∧
      Blk w' w.heap.size 78 (nums .u32 (paint code left many (List.replicate R 0) code.length)).toArray ∧
      Blk w' (w.heap.size + 1) 75 #[.int .i64 out, .int .i64 1, .int .i64 rs, .slice (some ⟨w.heap.size, 0, none⟩) R R] ∧ Below w.heap.size w w' := by
  have e1 : code.length * many ≤ out := by
    rw [← hmany]
    have := Int.mul_ediv_self_le (x := out) (k := full) (by omega)
    have h3 := Int.ediv_nonneg (show 0 ≤ out by split at hout <;> omega) (show 0 ≤ full by omega)
    have h4 := Int.mul_le_mul_of_nonneg_right (show (code.length : Int) ≤ full by omega) h3
    omega
  have ho : full ≤ out ∧ out ≤ 200000 := by split at hout <;> omega
  have hmy : 1 ≤ many := by
    rw [← hmany]
    exact (Int.le_ediv_iff_mul_le (by omega)).2 (by omega)
  have hnn : 0 ≤ (code.length : Int) * many := Int.mul_nonneg (by omega) (by omega)
  have hle : many ≤ 200000 := by
    rw [← hmany]
    exact Int.le_trans (Int.ediv_le_self _ (by omega)) (by omega)
  obtain ⟨lm, hlm⟩ : ∃ lm, (code.length : Int) * many = lm := ⟨_, rfl⟩
  rw [hlm] at e1 hnn hleft
  have q1 : wrap64 ((code.length : Int) * many) = lm := by rw [hlm]; unfold wrap64; omega
  have HC := Aside0.mk hc
  have HL := Aside0.mk hlm
  clear hc hlm
  have HO := Aside0.mk hout
  clear hout
  have hlft : 0 ≤ left ∧ left + lm ≤ out := by omega
  obtain ⟨hl1, hl2⟩ := hlft
  have HF := Aside0.mk hleft
  have HM := Aside0.mk hrs
  have HR := Aside0.mk hR
  clear hR
  go_enter Tryz.func99, Tryz.ntmps99
  go_wp2_with fail
  refine (maxI w wd full).mono ?_
  rintro e w' ⟨rfl, rfl⟩
  rw [HO.out]
  go_wp2_with fail
  refine (maxI w 1 1).mono ?_
  rintro e w' ⟨rfl, rfl⟩
  simp only [show (if (1 : Int) < 1 then (1 : Int) else 1) = 1 from rfl]
  go_wp2_with fail
  refine (newBM w out 1 rs R (by omega) (by omega) (by omega) HM.out (by rw [HR.out]; omega) (by have := HR.out; have := HM.out; omega)).mono ?_
  rintro e w1 ⟨rfl, hw1⟩
  have hbw : Below w.heap.size w w1 := by rw [hw1]; exact below_alloc (below_alloc (Below.refl _ _) _) _
  have b1 : Blk w1 w.heap.size 78 (nums .u32 (List.replicate R 0)).toArray := by rw [hw1]; exact Blk.alloc (Blk.new w _ _) _
  have b2 : Blk w1 (w.heap.size + 1) 75 #[.int .i64 out, .int .i64 1, .int .i64 rs, .slice (some ⟨w.heap.size, 0, none⟩) R R] := by
    rw [hw1]
    have := Blk.new (w.alloc (.cells (nums .u32 (List.replicate R 0)).toArray 78)) 75 #[.int .i64 out, .int .i64 1, .int .i64 rs, .slice (some ⟨w.heap.size, 0, none⟩) R R]
    simpa using this
  have HBW := Aside0.mk hbw
  have B1 := Aside0.mk b1
  have B2 := Aside0.mk b2
  clear hw1 hbw b1 b2
  go_wp2
  go_loopw [18, 19] (fun v u wr => ∃ k : Nat, k ≤ code.length ∧ v = .int .i64 k ∧ u = .int .i64 (left + k * many) ∧ Aside0 (Blk wr w.heap.size 78 (nums .u32 (paint code left many (List.replicate R 0) k)).toArray) ∧ Aside0 (Turn w1 wr w.heap.size)) (fun v _ _ => code.length - (intOf v).toNat)
  case atStart => exact ⟨0, by omega, rfl, by simp, B1, ⟨Turn.refl _ _⟩⟩
  case round =>
    obtain ⟨k, hk, rfl, rfl, HX, HU⟩ := hrel
    by_cases hlx : k < code.length
    · have hlx' : (k : Int) < code.length := by omega
      obtain ⟨ad, rfl, hcell⟩ := Kd.at_bool HC.out (k : Int) (by omega) hlx'
      replace hcell := ((HBW.out.trans (HU.out.below (Nat.le_refl _))).cell (World.block_lt_of_cell? w _ hcell)).trans hcell
      simp only [Int.toNat_natCast] at hcell
      obtain ⟨p, hp⟩ : ∃ p, (k : Int) * many = p := ⟨_, rfl⟩
      have hp1 : 0 ≤ p := by rw [← hp]; exact Int.mul_nonneg (by omega) (by omega)
      have hp2 : p + many ≤ lm := by
        have h1 := Int.mul_le_mul_of_nonneg_right (show (k : Int) + 1 ≤ code.length by omega) (show 0 ≤ many by omega)
        have h2 : ((k : Int) + 1) * many = k * many + many := by rw [Int.add_mul, Int.one_mul]
        have := HL.out
        omega
      have hp3 : left + ((k + 1 : Nat) : Int) * many = left + p + many := by
        have h2 : ((k : Int) + 1) * many = k * many + many := by rw [Int.add_mul, Int.one_mul]
        push_cast
        omega
      have HP := Aside0.mk hp3
      have HPP := Aside0.mk hp
      rw [hp]
      clear hp hp3
      by_cases hb : rdOf false code k = true
      · rw [hb] at hcell
        have HHB := Aside0.mk hb
        clear hb
        have hsz := B1.out.lt
        go_wp2_with fail
        refine (setRegion wr (w.heap.size + 1) w.heap.size out 1 rs (left + p) 0 many 1 _ R (HU.out.blk B2.out (by omega)) HX.out (by rw [paint_length, List.length_replicate]) (by have := HR.out; have := HM.out; omega) HM.out (by rw [HR.out]; omega) (by omega) (by omega) (by omega) (by omega) (by omega) (by omega) (by omega) (by omega)).mono ?_
        rintro e w2 ⟨rfl, hx2, hu2⟩
        have HX2 := Aside0.mk hx2
        have HU2 := Aside0.mk hu2
        clear hx2 hu2
        go_wp2
        go_roundw
        case rel => exact ⟨k + 1, by omega, by go_num, by rw [HP.out], ⟨by rw [paint, if_pos HHB.out, HPP.out, List.length_replicate, ← HR.out]; exact HX2.out⟩, ⟨HU.out.trans HU2.out⟩⟩
        case measure => simp [intOf]; omega
      · have hb' : rdOf false code k = false := by simpa using hb
        rw [hb'] at hcell
        have HHB := Aside0.mk hb'
        clear hb hb'
        go_wp2
        go_roundw
        case rel => exact ⟨k + 1, by omega, by go_num, by rw [HP.out], ⟨by rw [paint, if_neg (by rw [HHB.out]; simp)]; exact HX.out⟩, HU⟩
        case measure => simp [intOf]; omega
    · have : k = code.length := by omega
      subst this
      go_wp2
      go_ret2
      refine ⟨rfl, HX.out, HU.out.blk B2.out (by omega), HBW.out.trans (HU.out.below (Nat.le_refl _))⟩

/-! ### The map of one entry, and what is asked of it -/
theorem chk_key (em : Bool) (W : World) (x : Value) : (Instr.checkKey em 10000 50 x).run Tryz.prog W = .ok () W := by
  rw [show (10000 : Nat) = 9999 + 1 from rfl, Instr.checkKey]
  simp [run_underlying Tryz.underlying50]
theorem getObj_map (W : World) (r : Nat) (es : Array MapEntry) (c : Nat) (h : W.heap[r]? = some (.map es c)) : (getObj r).run Tryz.prog W = .ok (.map es c) W := by simp [getObj, Sem.run, h]
theorem setObj_map (W : World) (r : Nat) (es : Array MapEntry) (c : Nat) (o : Obj) (h : W.heap[r]? = some (.map es c)) : (setObj r o).run Tryz.prog W = .ok () { W with heap := W.heap.setIfInBounds r o } := by simp [setObj, Sem.run, h]
theorem push_set (h : Array Obj) (x o : Obj) : (h.push x).setIfInBounds h.size o = h.push o := by
  apply Array.toList_inj.1
  simp
theorem run_ins (W : World) (v : Value) : (Instr.mapUpdate 51 (.map (some W.heap.size)) (.int .i64 5) v).run Tryz.prog (W.alloc (.map #[] 0)) = .ok () (W.alloc (.map #[⟨.int .i64 5, v, 0⟩] 1)) := by
  unfold Instr.mapUpdate
  have h : (W.alloc (.map #[] 0)).heap[W.heap.size]? = some (.map #[] 0) := heap_alloc_new W _
  simp only [Sem.run_bind, run_underlying Tryz.underlying51, Result.andThen_ok, getObj_map _ _ _ _ h, chk_key]
  simp only [Instr.findKey, Sem.run_bind, run_underlying Tryz.underlying50, Result.andThen_ok, Instr.findNow, Sem.run_pure]
  rw [setObj_map _ _ _ _ _ h]
  have e : (W.alloc (.map #[] 0)).heap.setIfInBounds W.heap.size (.map #[⟨.int .i64 5, v, 0⟩] 1) = W.heap.push (.map #[⟨.int .i64 5, v, 0⟩] 1) := push_set _ _ _
  exact congrArg (Result.ok ()) (congrArg (fun hp => ({ W with heap := hp } : World)) e)
theorem run_lk (W : World) (gm : Nat) (v : Value) (h : W.heap[gm]? = some (.map #[⟨.int .i64 5, v, 0⟩] 1)) : (Instr.lookup 51 (.map (some gm)) (.int .i64 5) true).run Tryz.prog W = .ok (.tuple #[v, .bool true]) W := by
  unfold Instr.lookup
  simp only [Sem.run_bind, run_underlying Tryz.underlying51, Result.andThen_ok, getObj_map _ _ _ _ h, Sem.run_pure, chk_key]
  simp [Instr.findKey, run_underlying Tryz.underlying50, Instr.findNow, Instr.sameNow]
theorem run_ta (v : Int) (W : World) : (Instr.typeAssert (.iface 3 (.int .i64 v)) 20 3 true).run Tryz.prog W = .ok (.tuple #[.int .i64 v, .bool true]) W := by kernel_rfl

theorem methE (g : Nat) (W : World) : Sem.run Tryz.prog (method 315 85 (.pointer (some ⟨g, 0, none⟩)) "Encode") W = .ok (94, .pointer (some ⟨g, 0, none⟩)) W := by kernel_rfl
theorem newOdw (w : World) (t : TypeId) (x : Value) :
    Calls Tryz.prog 70 #[.iface t x] w fun e w' => e = .returned (.pointer (some ⟨w.heap.size, 0, none⟩)) ∧ w' = w.alloc (.cells #[.iface t x, .int .i64 10] 106) := by
  go_enter Tryz.func70, Tryz.ntmps70
  go_wp2
  go_ret
  exact ⟨rfl, rfl⟩
theorem alloc_set (w : World) (t : TypeId) (cs : Array Value) (i : Nat) (v : Value) : (w.alloc (.cells cs t)).setCell ⟨w.heap.size, i, none⟩ v = w.alloc (.cells (cs.setIfInBounds i v) t) := by
  have e : ((w.alloc (.cells cs t)).setCell ⟨w.heap.size, i, none⟩ v).heap = w.heap.push (.cells (cs.setIfInBounds i v) t) := by
    apply Array.ext_getElem?
    intro k
    by_cases hk : k = w.heap.size
    · subst hk
      have h := blk_set (heap_alloc_new w (.cells cs t)) i v
      simpa using h
    · rw [Below.heap_setCell _ _ _ _ hk]
      by_cases hl : k < w.heap.size
      · rw [Below.heap_alloc _ _ _ hl, Array.getElem?_push]
        simp [hk]
      · have h1 : (w.alloc (.cells cs t)).heap[k]? = none := Array.getElem?_eq_none (by simp; omega)
        rw [h1]
        exact (Array.getElem?_eq_none (by simp; omega)).symm
  exact congrArg (fun hp => ({ w with heap := hp } : World)) e
theorem newUpc (w : World) (t : TypeId) (x : Value) :
    Calls Tryz.prog 71 #[.iface t x] w fun e w' => e = .returned (.pointer (some ⟨w.heap.size, 0, none⟩)) ∧ w' = w.alloc (.cells #[.iface t x, .int .i64 9] 106) := by
  go_enter Tryz.func71, Tryz.ntmps71
  go_wp2_with (go_at_call 70; refine (newOdw _ _ _).mono ?_; rintro e w' ⟨rfl, rfl⟩)
  go_ret
  exact ⟨rfl, by first | rfl | exact alloc_set _ _ _ _ _⟩
theorem newExc (w : World) (s : ByteArray) (v : Value) :
    Calls Tryz.prog 100 #[.string s, v] w fun e w' => e = .returned (.agg #[.string s, .nilIface]) ∧ Below w.heap.size w w' := by
  go_enter Tryz.func100, Tryz.ntmps100
  go_wp2
  exact bodyPost_ret (v := .agg #[.string s, .nilIface]) (by simp [results, Tryz.results100, go_sem]) rfl ⟨rfl, (Below.refl _ _).alloc (Nat.le_refl _) _⟩
theorem newWExc (w : World) (v : Value) :
    Calls Tryz.prog 96 #[v] w fun e w' => ∃ x, e = .returned (.iface 141 x) ∧ Below w.heap.size w w' := by
  go_enter Tryz.func96, Tryz.ntmps96
  go_wp2_with (go_at_call 100; refine (newExc _ _ _).mono ?_; rintro e w' ⟨rfl, hb⟩)
  go_ret
  exact ⟨_, rfl, hb⟩

theorem C_nums {w : World} {g : Nat} {t : TypeId} {k : IntKind} {xs : List Int} (h : Blk w g t (nums k xs).toArray) (hl : xs.length ≤ 9223372036854775807) : Kd.C (Kd.int k) w (some ⟨g, 0, none⟩) xs.length xs := by
  refine Kd.C_of_reads (enc := Value.int k) (d := (0 : Int)) (h1 := fun _ => rfl) ⟨rfl, hl, fun _ => ⟨_, rfl, fun j hj => ?_⟩⟩
  have := h.ucell (j : Int) (by omega) (by omega)
  rw [add_plain]
  simpa [rd] using this
theorem C_bools {w : World} {g : Nat} {t : TypeId} {xs : List Bool} (h : Blk w g t (bools xs).toArray) (hl : xs.length ≤ 9223372036854775807) : Kd.C Kd.bool w (some ⟨g, 0, none⟩) xs.length xs := by
  refine Kd.C_of_reads (enc := Value.bool) (d := false) (h1 := fun _ => rfl) ⟨rfl, hl, fun _ => ⟨_, rfl, fun j hj => ?_⟩⟩
  have := h.bcell (j : Int) (by omega) (by omega)
  rw [add_plain]
  simpa [rdOf] using this
theorem contains1 (w : World) (g : Nat) (n : Int) (h : Blk w g 49 (nums .i64 [n]).toArray) :
    Calls Tryz.prog 97 #[.slice (some ⟨g, 0, none⟩) 1 1, .int .i64 n] w fun e w' => e = .returned (.bool true) ∧ Below w.heap.size w w' := by
  refine (F.gozxing_BarcodeFormats_Contains.calls 3 (some ⟨g, 0, none⟩) 1 [n] n true w (C_nums h (by simp)) (by simp) ?_).mono ?_
  · have e : rd [n] 0 = n := rfl
    simp [F.gozxing_BarcodeFormats_Contains.f, F.gozxing_BarcodeFormats_Contains.l0, e]
  · rintro e w' ⟨rfl, h⟩
    exact ⟨rfl, h.below⟩

/-! ### Bits of words -/
def W32 (xs : List Int) : Prop := ∀ v ∈ xs, 0 ≤ v ∧ v < 4294967296
theorem rd_mem (xs : List Int) (i : Int) (h : i.toNat < xs.length) : rd xs i ∈ xs := by
  rw [rd, List.getD_eq_getElem?_getD, List.getElem?_eq_getElem h]
  exact List.getElem_mem h
theorem pow_lt (k : Int) (h0 : 0 ≤ k) (h : k < 32) : 2 ^ k.toNat < 4294967296 := by
  have : 2 ^ k.toNat < 2 ^ 32 := Nat.pow_lt_pow_right (by omega) (by omega)
  simpa using this
theorem shl_eq (k : Int) (h0 : 0 ≤ k) (h : k < 32) : (2 : Int) ^ k.toNat % 4294967296 = ((2 ^ k.toNat : Nat) : Int) := by
  have := pow_lt k h0 h
  rw [show (2 : Int) ^ k.toNat = ((2 ^ k.toNat : Nat) : Int) by simp]
  generalize 2 ^ k.toNat = q at *
  omega
theorem and_pow (a k : Nat) : (((a &&& 2 ^ k : Nat) : Int) != 0) = a.testBit k := by
  cases h : a.testBit k with
  | true =>
    rw [bne_iff_ne]
    intro e
    have e0 : a &&& 2 ^ k = 0 := by omega
    have h1 : (a &&& 2 ^ k).testBit k = true := by rw [Nat.testBit_and, h, Nat.testBit_two_pow]; simp
    rw [e0] at h1
    simp at h1
  | false =>
    have e0 : a &&& 2 ^ k = 0 := by
      apply Nat.eq_of_testBit_eq
      intro i
      rw [Nat.testBit_and, Nat.testBit_two_pow, Nat.zero_testBit]
      by_cases e : k = i
      · subst e; simp [h]
      · simp [e]
    rw [e0]
    rfl
theorem bitAt_eq (xs : List Int) (hw : W32 xs) (x : Int) (h0 : 0 ≤ x) (h1 : x / 32 < xs.length) : bitAt xs x = (rd xs (x / 32)).toNat.testBit (x % 32).toNat := by
  have hm := hw _ (rd_mem xs (x / 32) (by omega))
  have hp := pow_lt (x % 32) (by omega) (by omega)
  rw [bitAt, shl_eq _ (by omega) (by omega), u32_and _ _ hm.1 hm.2 (Int.natCast_nonneg _) (Int.ofNat_lt.2 hp), Int.toNat_natCast, and_pow]
theorem orBit_w (xs : List Int) (hw : W32 xs) (o x : Int) (h0 : 0 ≤ o) (h1 : 0 ≤ x) (h2 : o + x / 32 < xs.length) : W32 (orBit xs o x) := by
  intro v hv
  rcases List.mem_or_eq_of_mem_set hv with h | h
  · exact hw v h
  · subst h
    have hm := hw _ (rd_mem xs (o + x / 32) (by omega))
    have hp := pow_lt (x % 32) (by omega) (by omega)
    rw [shl_eq _ (by omega) (by omega), u32_or _ _ hm.1 hm.2 (Int.natCast_nonneg _) (Int.ofNat_lt.2 hp), Int.toNat_natCast]
    generalize 2 ^ (x % 32).toNat = q at *
    have : (rd xs (o + x / 32)).toNat ||| q < 2 ^ 32 := Nat.or_lt_two_pow (by omega) (by omega)
    omega
theorem rd_set (xs : List Int) (i j : Int) (v : Int) (h0 : 0 ≤ i) (h1 : 0 ≤ j) (h2 : i < xs.length) : rd (xs.set i.toNat v) j = if j = i then v else rd xs j := by
  rw [rd, rd, List.getD_eq_getElem?_getD, List.getD_eq_getElem?_getD, List.getElem?_set]
  by_cases e : j = i
  · subst e
    simp [show j.toNat < xs.length by omega]
  · rw [if_neg e, if_neg (by omega)]
theorem bitAt_orBit (xs : List Int) (hw : W32 xs) (o x y : Int) (h0 : 0 ≤ o) (h1 : 0 ≤ x) (h2 : o + x / 32 < xs.length) (h3 : 0 ≤ y) (h4 : y / 32 < xs.length) :
    bitAt (orBit xs o x) y = (bitAt xs y || decide (y = 32 * o + x)) := by
  rw [bitAt_eq _ (orBit_w xs hw o x h0 h1 h2) y h3 (by rw [orBit_length]; exact h4), bitAt_eq xs hw y h3 h4, orBit, rd_set _ _ _ _ (by omega) (by omega) h2]
  have hm := hw _ (rd_mem xs (o + x / 32) (by omega))
  have hp := pow_lt (x % 32) (by omega) (by omega)
  by_cases e : y / 32 = o + x / 32
  · rw [if_pos e, shl_eq _ (by omega) (by omega), u32_or _ _ hm.1 hm.2 (Int.natCast_nonneg _) (Int.ofNat_lt.2 hp), Int.toNat_natCast, Int.toNat_natCast, Nat.testBit_or, Nat.testBit_two_pow, e]
    congr 1
    rw [decide_eq_decide]
    omega
  · rw [if_neg e]
    have : ¬ y = 32 * o + x := by omega
    simp [this]
theorem sregX_w (xs : List Int) (hw : W32 xs) (o left : Int) (h0 : 0 ≤ o) (h1 : 0 ≤ left) : ∀ n : Nat, (n = 0 ∨ o + (left + n - 1) / 32 < xs.length) → W32 (sregX xs o left n)
  | 0, _ => hw
  | n + 1, h => by
    have ih := sregX_w xs hw o left h0 h1 n (by omega)
    exact orBit_w _ ih o (left + n) h0 (by omega) (by rw [sregX_length]; omega)
theorem bitAt_sregX (xs : List Int) (hw : W32 xs) (o left y : Int) (h0 : 0 ≤ o) (h1 : 0 ≤ left) (h3 : 0 ≤ y) (h4 : y / 32 < xs.length) : ∀ n : Nat, (n = 0 ∨ o + (left + n - 1) / 32 < xs.length) →
    bitAt (sregX xs o left n) y = (bitAt xs y || decide (32 * o + left ≤ y ∧ y < 32 * o + left + n))
  | 0, _ => by
    have : decide (32 * o + left ≤ y ∧ y < 32 * o + left + ((0 : Nat) : Int)) = false := decide_eq_false (by omega)
    rw [sregX, this, Bool.or_false]
  | n + 1, h => by
    rw [sregX, bitAt_orBit _ (sregX_w xs hw o left h0 h1 n (by omega)) _ _ _ h0 (by omega) (by rw [sregX_length]; omega) h3 (by rw [sregX_length]; omega), bitAt_sregX xs hw o left y h0 h1 h3 h4 n (by omega), Bool.or_assoc]
    congr 1
    rw [← Bool.decide_or, decide_eq_decide]
    omega

/-- What a painted row has at y. -/
def rowAt (code : List Bool) (left many : Int) (y : Int) : Bool := if left ≤ y ∧ y < left + code.length * many then rdOf false code ((y - left) / many) else false
theorem paint_bits (code : List Bool) (left many : Int) (xs : List Int) (hw : W32 xs) (h0 : 0 ≤ left) (h1 : 1 ≤ many) (R : Nat) (hR : xs.length = R) (hz : ∀ y : Int, 0 ≤ y → y / 32 < R → bitAt xs y = false) :
    ∀ n : Nat, (n = 0 ∨ (left + n * many - 1) / 32 < R) → W32 (paint code left many xs n) ∧ ∀ y : Int, 0 ≤ y → y / 32 < R →
      bitAt (paint code left many xs n) y = (if left ≤ y ∧ y < left + n * many then rdOf false code ((y - left) / many) else false)
  | 0, _ => ⟨hw, fun y hy hy2 => by rw [paint, hz y hy hy2, if_neg (by rw [show ((0 : Nat) : Int) * many = 0 by simp]; omega)]⟩
  | n + 1, h => by
    have e1 : ((n + 1 : Nat) : Int) * many = n * many + many := by push_cast; rw [Int.add_mul, Int.one_mul]
    rw [e1] at h
    have hnn : 0 ≤ (n : Int) * many := Int.mul_nonneg (by omega) (by omega)
    obtain ⟨ihw, ih⟩ := paint_bits code left many xs hw h0 h1 R hR hz n (by omega)
    have hl := paint_length code left many xs n
    obtain ⟨p, hp⟩ : ∃ p, (n : Int) * many = p := ⟨_, rfl⟩
    rw [hp] at hnn h ih e1
    have hdiv : ∀ y : Int, left + p ≤ y → y < left + p + many → (y - left) / many = n := by
      intro y ha hb
      have h2 : y - left = (y - left - p) + n * many := by omega
      rw [h2, Int.add_mul_ediv_right _ _ (by omega), Int.ediv_eq_zero_of_lt (by omega) (by omega)]
      omega
    rw [paint]
    split
    · rename_i hc
      have hs : sreg (paint code left many xs n) (xs.length : Int) (left + (n : Int) * many) many.toNat 0 1 = sregX (paint code left many xs n) 0 (left + p) many.toNat := by
        simp only [sreg, hp]
        simp
      rw [hs]
      refine ⟨sregX_w _ ihw 0 (left + p) (by omega) (by omega) _ (by rw [hl]; omega), fun y hy hy2 => ?_⟩
      rw [bitAt_sregX _ ihw 0 (left + p) y (by omega) (by omega) hy (by rw [hl]; omega) _ (by rw [hl]; omega), ih y hy hy2, e1]
      by_cases ha : left + p ≤ y ∧ y < left + p + many
      · rw [if_neg (by omega), if_pos (by omega), hdiv y ha.1 ha.2, hc]
        simp; omega
      · have hd : decide (32 * (0 : Int) + (left + p) ≤ y ∧ y < 32 * (0 : Int) + (left + p) + (many.toNat : Int)) = false := decide_eq_false (by omega)
        rw [hd, Bool.or_false]
        by_cases hb : left ≤ y ∧ y < left + p
        · rw [if_pos hb, if_pos (by omega)]
        · rw [if_neg hb, if_neg (by omega)]
    · rename_i hc
      refine ⟨ihw, fun y hy hy2 => ?_⟩
      rw [ih y hy hy2, e1]
      by_cases ha : left + p ≤ y ∧ y < left + p + many
      · rw [if_neg (by omega), if_pos (by omega), hdiv y ha.1 ha.2]
        simpa using hc
      · by_cases hb : left ≤ y ∧ y < left + p
        · rw [if_pos hb, if_pos (by omega)]
        · rw [if_neg hb, if_neg (by omega)]

theorem cpy_eq (xs ys : List Int) : ∀ n : Nat, n ≤ ys.length → n ≤ xs.length → cpy xs ys 0 n = xs.take n ++ ys.drop n
  | 0, _, _ => by simp [cpy]
  | n + 1, h1, h2 => by
    rw [cpy, cpy_eq xs ys n (by omega) (by omega)]
    have hl : (xs.take n).length = n := by simp; omega
    have e : rd xs (0 + (n : Int)) = xs[n] := by simp [rd, List.getElem?_eq_getElem (show n < xs.length by omega)]
    rw [List.set_append_right _ _ (by omega), hl, Nat.sub_self, List.drop_eq_getElem_cons (show n < ys.length by omega), List.set_cons_zero, e, List.take_succ_eq_append_getElem (show n < xs.length by omega), List.append_assoc]
    rfl

def rowList (code : List Bool) (left many : Int) (n : Nat) : List Bool := (List.range n).map fun (i : Nat) => rowAt code left many i
theorem row_eq (code : List Bool) (left many : Int) (R OUT : Nat) (h0 : 0 ≤ left) (h1 : 1 ≤ many) (h2 : left + code.length * many ≤ OUT) (hR : ((OUT : Int) + 31) / 32 = R) :
    unbits (cpy (paint code left many (List.replicate R 0) code.length) (List.replicate R 0) 0 R) OUT = rowList code left many OUT := by
  have hl := paint_length code left many (List.replicate R 0) code.length
  rw [List.length_replicate] at hl
  rw [cpy_eq _ _ R (by simp) (by omega), List.take_of_length_le (by omega), List.drop_of_length_le (by simp), List.append_nil]
  have hw0 : W32 (List.replicate R 0) := fun v hv => by rw [List.eq_of_mem_replicate hv]; omega
  have hz : ∀ y : Int, 0 ≤ y → y / 32 < R → bitAt (List.replicate R 0) y = false := fun y hy hy2 => by
    rw [bitAt_eq _ hw0 y hy (by simpa using hy2)]
    have hm := rd_mem (List.replicate R 0) (y / 32) (by simp; omega)
    rw [List.eq_of_mem_replicate hm]
    simp
  obtain ⟨_, hb⟩ := paint_bits code left many (List.replicate R 0) hw0 h0 h1 R (by simp) hz code.length (by omega)
  unfold unbits rowList
  refine List.map_congr_left fun i hi => ?_
  rw [List.mem_range] at hi
  rw [hb i (by omega) (by omega)]
  rfl

/-! ### The reference's row -/
/-- So many pixels of a row are painted. -/
def RowInv (code : List Bool) (left many : Int) (OUT : Nat) (xs : List Bool) (n : Int) : Prop :=
  xs.length = OUT ∧ ∀ y : Int, 0 ≤ y → y < OUT → rdOf false xs y = (if left ≤ y ∧ y < left + n then rdOf false code ((y - left) / many) else false)
theorem rdOf_set {α : Type} (d : α) (xs : List α) (i j : Int) (v : α) (h0 : 0 ≤ i) (h1 : 0 ≤ j) (h2 : i < xs.length) : rdOf d (xs.set i.toNat v) j = if j = i then v else rdOf d xs j := by
  rw [rdOf, rdOf, List.getD_eq_getElem?_getD, List.getD_eq_getElem?_getD, List.getElem?_set]
  by_cases e : j = i
  · subst e
    simp [show j.toNat < xs.length by omega]
  · rw [if_neg e, if_neg (by omega)]
theorem rowInv_step (code : List Bool) (left many : Int) (OUT : Nat) (xs : List Bool) (n : Int) (h : RowInv code left many OUT xs n) (h0 : 0 ≤ left) (hn : 0 ≤ n) (hl : left + n < OUT) :
    RowInv code left many OUT (xs.set (left + n).toNat (rdOf false code (n / many))) (n + 1) := by
  refine ⟨by rw [List.length_set]; exact h.1, fun y hy hy2 => ?_⟩
  rw [rdOf_set false xs (left + n) y _ (by omega) hy (by rw [h.1]; omega)]
  by_cases e : y = left + n
  · rw [if_pos e, if_pos (by omega), e, show left + n - left = n by omega]
  · rw [if_neg e, h.2 y hy hy2]
    by_cases e2 : left ≤ y ∧ y < left + n
    · rw [if_pos e2, if_pos (by omega)]
    · rw [if_neg e2, if_neg (by omega)]
theorem rowInv_list (code : List Bool) (left many : Int) (OUT : Nat) (xs : List Bool) (h : RowInv code left many OUT xs (code.length * many)) : xs = rowList code left many OUT := by
  apply List.ext_getElem?
  intro i
  by_cases hi : i < OUT
  · have h1 := h.2 i (by omega) (by omega)
    rw [List.getElem?_eq_getElem (by rw [h.1]; exact hi), rowList, List.getElem?_map, List.getElem?_range hi]
    have h2 : rdOf false xs (i : Int) = xs[i]'(by rw [h.1]; exact hi) := by simp [rdOf, List.getElem?_eq_getElem (show i < xs.length by rw [h.1]; exact hi)]
    rw [← h2, h1]
    rfl
  · rw [List.getElem?_eq_none (by rw [h.1]; omega), List.getElem?_eq_none (by simp [rowList]; omega)]

theorem odRow_run (code : List Bool) (left many : Int) (OUT : Nat) (h0 : 0 ≤ left) (h1 : 1 ≤ many) (h2 : left + code.length * many ≤ OUT) (hO : OUT ≤ 1000000) (hm : many ≤ 1000000) (hc : code.length ≤ 1000000) :
    ∀ (d i : Nat) (xs : List Bool), (code.length : Int) - i = d → RowInv code left many OUT xs (i * many) → Ev (fun k => F.spec_ODRow.l0 k code xs many left i) (rowList code left many OUT) := by
  intro d
  induction d with
  | zero =>
    intro i xs hd hx
    refine Ev.step (f := fun _ => some xs) (fun k => ?_) ?_
    · rw [F.spec_ODRow.l0, if_neg (by omega)]
    · have : (i : Int) = code.length := by omega
      rw [this] at hx
      rw [← rowInv_list code left many OUT xs hx]
      exact Ev.now xs
  | succ d ih =>
    intro i xs hd hx
    have e1 : ((i + 1 : Nat) : Int) * many = i * many + many := by push_cast; rw [Int.add_mul, Int.one_mul]
    have hle : (i : Int) * many + many ≤ code.length * many := by
      rw [← e1]; exact Int.mul_le_mul_of_nonneg_right (by omega) (by omega)
    have hnn : 0 ≤ (i : Int) * many := Int.mul_nonneg (by omega) (by omega)
    refine Ev.step (f := fun k => F.spec_ODRow.l1 k code xs many left i 0) (fun k => ?_) ?_
    · rw [F.spec_ODRow.l0, if_pos (by omega)]
    · suffices H : ∀ (q : Nat) (k : Int) (zs : List Bool), 0 ≤ k → many - k = q → RowInv code left many OUT zs (i * many + k) → Ev (fun f => F.spec_ODRow.l1 f code zs many left i k) (rowList code left many OUT) from
        H many.toNat 0 xs (by omega) (by omega) (by simpa using hx)
      intro q
      induction q with
      | zero =>
        intro k zs hk hq hz
        refine Ev.step (f := fun f => F.spec_ODRow.l0 f code zs many left ((i + 1 : Nat) : Int)) (fun f => ?_) ?_
        · rw [F.spec_ODRow.l1, if_neg (by omega), show wrap64 ((i : Int) + 1) = ((i + 1 : Nat) : Int) by unfold wrap64; omega]
        · exact ih (i + 1) zs (by omega) (by rw [e1]; have : k = many := by omega
                                             rwa [this] at hz)
      | succ q ihq =>
        intro k zs hk hq hz
        generalize hp : (i : Int) * many = p at *
        have hdiv : (p + k) / many = i := by
          rw [← hp, Int.add_comm, Int.add_mul_ediv_right _ _ (by omega), Int.ediv_eq_zero_of_lt hk (by omega)]
          omega
        refine Ev.step (f := fun f => F.spec_ODRow.l1 f code (zs.set (left + (p + k)).toNat (rdOf false code ((p + k) / many))) many left i (k + 1)) (fun f => ?_) ?_
        · have w1 : wrap64 ((i : Int) * many) = p := by rw [hp]; unfold wrap64; omega
          have w2 : wrap64 (left + p) = left + p := by unfold wrap64; omega
          have w3 : wrap64 (left + p + k) = left + (p + k) := by unfold wrap64; omega
          rw [F.spec_ODRow.l1, if_pos (by omega), if_pos (by omega), if_pos (by omega), w1, w2, w3, if_pos (by omega), if_pos (by rw [hz.1]; omega), show wrap64 (k + 1) = k + 1 by unfold wrap64; omega, hdiv]
        · exact ihq (k + 1) _ (by omega) (by omega) (by
            have := rowInv_step code left many OUT zs (p + k) hz h0 (by omega) (by omega)
            rwa [show p + k + 1 = p + (k + 1) by omega] at this)

theorem odRow (code : List Bool) (wd mg full out many left : Int) (OUT : Nat) (q0 : 0 < (code.length : Int) + mg) (hm0 : 0 ≤ mg) (hm1 : mg ≤ 1000) (hw0 : 0 ≤ wd) (hw1 : wd ≤ 100000) (hlc : code.length ≤ 100000)
    (hfull : (code.length : Int) + mg = full) (hout : (if full < wd then wd else full) = out) (hmany : out / full = many) (hleft : (out - code.length * many) / 2 = left) (hOUT : out = (OUT : Int)) :
    Ev (fun k => F.spec_ODRow.f k code wd mg) (rowList code left many OUT) := by
  have hb : 0 < full ∧ full ≤ out ∧ out ≤ 200000 := by split at hout <;> omega
  obtain ⟨hb0, hb1, hb2⟩ := hb
  have hmx : mx wd full = out := by unfold mx; rw [← hout]; split <;> split <;> omega
  have hmy : 1 ≤ many := by rw [← hmany]; exact (Int.le_ediv_iff_mul_le (by omega)).2 (by omega)
  have hle : many ≤ 200000 := by rw [← hmany]; exact Int.le_trans (Int.ediv_le_self _ (by omega)) (by omega)
  have hlm : (code.length : Int) * many ≤ out := by
    rw [← hmany]
    have h1 := Int.mul_ediv_self_le (x := out) (k := full) (by omega)
    have h4 := Int.mul_le_mul_of_nonneg_right (show (code.length : Int) ≤ full by omega) (show 0 ≤ out / full by omega)
    omega
  have hnn : 0 ≤ (code.length : Int) * many := Int.mul_nonneg (by omega) (by omega)
  generalize hp : (code.length : Int) * many = p at *
  have hmain := odRow_run code left many OUT (by omega) hmy (by omega) (by omega) (by omega) (by omega) code.length 0 (List.replicate OUT false) (by omega) ⟨by simp, fun y hy hy2 => by
    rw [if_neg (by rw [show ((0 : Nat) : Int) * many = 0 by simp]; omega), rdOf, List.getD_eq_getElem?_getD, List.getElem?_replicate]
    split <;> rfl⟩
  refine Ev.congr (fun k => ?_) hmain
  have w1 : wrap64 ((code.length : Int) + mg) = full := by rw [hfull]; unfold wrap64; omega
  have t1 : Int.tdiv out full = many := by rw [Int.tdiv_eq_ediv_of_nonneg (by omega)]; exact hmany
  have w2 : wrap64 many = many := by unfold wrap64; omega
  have w3 : wrap64 ((code.length : Int) * many) = p := by rw [hp]; unfold wrap64; omega
  have w4 : wrap64 (out - p) = out - p := by unfold wrap64; omega
  have t2 : Int.tdiv (out - p) 2 = left := by rw [Int.tdiv_eq_ediv_of_nonneg (by omega)]; exact hleft
  have w5 : wrap64 left = left := by unfold wrap64; omega
  unfold F.spec_ODRow.f
  rw [w1, hmx, if_pos (by omega), if_pos (by omega), if_neg (by omega), t1, w2, w3, w4, t2, w5]
  rw [show out.toNat = OUT by omega]
  rfl

theorem sameBits (xs : List Bool) (hl : xs.length ≤ 1000000) : Ev (fun k => F.spec_BISameBits.f k xs xs) true := by
  have H : ∀ (d i : Nat), (xs.length : Int) - i = d → Ev (fun k => F.spec_BISameBits.l0 k xs xs i) true := by
    intro d
    induction d with
    | zero =>
      intro i hd
      refine Ev.step (f := fun _ => some true) (fun k => ?_) (Ev.now true)
      rw [F.spec_BISameBits.l0, if_neg (by omega)]
    | succ d ih =>
      intro i hd
      refine Ev.step (fun k => ?_) (ih (i + 1) (by omega))
      rw [F.spec_BISameBits.l0, if_pos (by omega), if_pos (by omega), if_pos (by omega), if_neg (by simp), show wrap64 ((i : Int) + 1) = ((i + 1 : Nat) : Int) by unfold wrap64; omega]
  refine Ev.congr (fun k => ?_) (H xs.length 0 (by omega))
  unfold F.spec_BISameBits.f
  rw [if_pos rfl]
  rfl

/-! ### Texts of some signs -/
def some_ (signs : ByteArray) (l : List Int) (most : Nat) : List UInt8 := (l.take most).map fun v => signs.data.toList.getD (v % (signs.size : Int)).toNat 0
theorem ba_append (a b : ByteArray) : (a ++ b).data.toList = a.data.toList ++ b.data.toList := by simp [ByteArray.data_append]
theorem odSome_run (signs : ByteArray) (l : List Int) (most : Nat) (h0 : 0 < signs.size) (h1 : signs.size ≤ 1000) (hm : most ≤ 100000) (hl : ∀ v ∈ l, 0 ≤ v ∧ v ≤ 255) :
    ∀ (d i : Nat) (x : ByteArray), i + d = min l.length most → x.data.toList = some_ signs l i → Ev (fun k => F.spec_ODSome.l0 k signs l most x i) ⟨(some_ signs l most).toArray⟩ := by
  have hfin : ∀ (i : Nat) (x : ByteArray), i = min l.length most → x.data.toList = some_ signs l i → x = ⟨(some_ signs l most).toArray⟩ := by
    intro i x hi hx
    have e : some_ signs l i = some_ signs l most := by
      unfold some_
      congr 1
      rw [hi]
      rcases Nat.le_total l.length most with h | h
      · rw [Nat.min_eq_left h, List.take_of_length_le (Nat.le_refl _), List.take_of_length_le h]
      · rw [Nat.min_eq_right h]
    rw [e] at hx
    rw [← hx]
  intro d
  induction d with
  | zero =>
    intro i x hi hx
    rw [← hfin i x hi hx]
    refine Ev.step (f := fun _ => some x) (fun k => ?_) (Ev.now x)
    rw [F.spec_ODSome.l0]
    by_cases hc : (i : Int) < l.length
    · rw [if_pos hc, if_neg (by omega)]
    · rw [if_neg hc]
  | succ d ih =>
    intro i x hi hx
    have hil : i < l.length := by omega
    have him : i < most := by omega
    have hv := hl _ (rd_mem l (i : Int) (by simpa using hil))
    have hrd : rd l (i : Int) = l[i] := by simp [rd, List.getElem?_eq_getElem hil]
    have hw : wrap64 (rd l (i : Int)) = rd l i := by unfold wrap64; omega
    have ht : Int.tmod (rd l (i : Int)) (signs.size : Int) = rd l (i : Int) % (signs.size : Int) := Int.tmod_eq_emod_of_nonneg hv.1
    have hb0 : 0 ≤ rd l (i : Int) % (signs.size : Int) := Int.emod_nonneg _ (by omega)
    have hb1 : rd l (i : Int) % (signs.size : Int) < signs.size := Int.emod_lt_of_pos _ (by omega)
    obtain ⟨q, hq⟩ : ∃ q : Nat, rd l (i : Int) % (signs.size : Int) = q := ⟨(rd l (i : Int) % (signs.size : Int)).toNat, by omega⟩
    have hxs : x.size = i := by rw [← data_length, hx]; simp [some_]; omega
    have hex : (signs.extract q (q + 1)).data.toList = [signs.data.toList.getD q 0] := by
      have hql : q < signs.data.toList.length := by rw [data_length]; omega
      rw [Lib.extract_data, show q + 1 - q = 1 by omega, List.drop_eq_getElem_cons hql, List.getD_eq_getElem?_getD, List.getElem?_eq_getElem hql]
      rfl
    have hes : (signs.extract q (q + 1)).size = 1 := by rw [← data_length, hex]; rfl
    have hx2 : (x ++ signs.extract q (q + 1)).data.toList = some_ signs l (i + 1) := by
      rw [ba_append, hex, hx]
      unfold some_
      rw [List.take_succ_eq_append_getElem hil, List.map_append, List.map_singleton, ← hrd, hq, Int.toNat_natCast]
    refine Ev.step (fun k => ?_) (ih (i + 1) _ (by omega) hx2)
    rw [F.spec_ODSome.l0, if_pos (by omega), if_pos (by omega), if_pos (by omega), if_neg (by omega), hw, ht, hq, if_pos (by omega), show wrap64 ((q : Int) + 1) = ((q + 1 : Nat) : Int) by unfold wrap64; omega, if_pos (by omega), if_pos (by omega), Int.toNat_natCast, Int.toNat_natCast, hes, hxs, if_pos (by omega), show wrap64 ((i : Int) + 1) = ((i + 1 : Nat) : Int) by unfold wrap64; omega]

theorem odSome (w : World) (signs : ByteArray) (A : Option Addr) (c : Nat) (l : List Int) (most : Nat) (h0 : 0 < signs.size) (h1 : signs.size ≤ 1000) (hm : most ≤ 100000) (hl : ∀ v ∈ l, 0 ≤ v ∧ v ≤ 255)
    (hC : Kd.C (Kd.int .u8) w A l.length l) (hc : l.length ≤ c) :
    Calls Tryz.prog 25 #[.string signs, .slice A l.length c, .int .i64 (most : Int)] w fun e w' => e = .returned (.string ⟨(some_ signs l most).toArray⟩) ∧ Below w.heap.size w w' := by
  obtain ⟨k, hk⟩ := (odSome_run signs l most h0 h1 hm hl (min l.length most) 0 ⟨#[]⟩ (by omega) rfl).rounds
  refine (F.spec_ODSome.calls k signs A c l most _ w hC hc hk).mono ?_
  rintro e w' ⟨rfl, h⟩
  exact ⟨rfl, h.below⟩

def tenSigns : ByteArray := ⟨#[48, 49, 50, 51, 52, 53, 54, 55, 56, 57]⟩
def digs (l : List Int) : List Nat := let n := (min l.length 80) / 2 * 2; (l.take n).map fun v => (v % 10).toNat
theorem digs_len (l : List Int) : (digs l).length = 2 * (min l.length 80 / 2) := by simp [digs]; omega
def DigPost (l : List Int) (least : Int) (t : ByteArray) : Prop := if ((digs l).length : Int) < least then t = ⟨#[]⟩ else t.data.toList = (digs l).map (fun d => UInt8.ofNat (48 + d))
/-- The text of digits, or none if there are fewer than two. -/
theorem odDigits (w : World) (A : Option Addr) (c : Nat) (l : List Int) (least : Int) (hl : ∀ v ∈ l, 0 ≤ v ∧ v ≤ 255) (hC : Kd.C (Kd.int .u8) w A l.length l) (hc : l.length ≤ c) (h2 : least = 2 ∨ least = 6) :
    Calls Tryz.prog 22 #[.slice A l.length c, .int .i64 least] w fun e w' => ∃ t : ByteArray, e = .returned (.string t) ∧ Below w.heap.size w w' ∧
      DigPost l least t := by
  obtain ⟨r, hr⟩ : ∃ r : ByteArray, (⟨(some_ tenSigns l 80).toArray⟩ : ByteArray) = r := ⟨_, rfl⟩
  have hrd : r.data.toList = some_ tenSigns l 80 := by rw [← hr]
  have hrs : r.size = min l.length 80 := by rw [← data_length, hrd]; simp [some_]; omega
  obtain ⟨n, hn⟩ : ∃ n, min l.length 80 = n := ⟨_, rfl⟩
  rw [hn] at hrs
  have hn80 : n ≤ 80 := by omega
  have hes : (r.extract 0 (n / 2 * 2)).size = n / 2 * 2 := by
    rw [← data_length, Lib.extract_data, List.drop_zero, List.length_take, data_length, hrs]; omega
  have hdl := digs_len l
  rw [hn] at hdl
  have hed : (r.extract 0 (n / 2 * 2)).data.toList = (digs l).map (fun d => UInt8.ofNat (48 + d)) := by
    rw [Lib.extract_data, List.drop_zero, Nat.sub_zero, hrd]
    unfold some_ digs
    rw [← List.map_take, List.take_take, hn, show min (n / 2 * 2) 80 = n / 2 * 2 by omega, List.map_map]
    refine List.map_congr_left fun v hv => ?_
    have hv2 := hl v (List.mem_of_mem_take hv)
    have : ∀ q : Fin 10, tenSigns.data.toList.getD (q : Nat) 0 = UInt8.ofNat (48 + (q : Nat)) := by decide +kernel
    exact this ⟨(v % 10).toNat, by omega⟩
  have HES := Aside0.mk hes
  have HED := Aside0.mk hed
  have HDL := Aside0.mk hdl
  have HC := Aside0.mk hC
  have HR := Aside0.mk hr
  have HL := Aside0.mk hl
  have hrsI : (r.size : Int) = n := by omega
  have heI : ((r.extract 0 (n / 2 * 2)).size : Int) = (n : Int) / 2 * 2 := by omega
  have hds : ((digs l).length : Int) = (n : Int) / 2 * 2 := by omega
  have HDS := Aside0.mk hds
  clear hes hed hdl hC hr hrs hn hrd hl hds
  have hb1 : 0 ≤ (n : Int) / 2 * 2 ∧ (n : Int) / 2 * 2 ≤ n := by omega
  obtain ⟨hb1, hb2⟩ := hb1
  by_cases hlt : (n : Int) / 2 * 2 < least
  · have hdd : decide ((n : Int) / 2 * 2 < least) = true := decide_eq_true hlt
    have hd2 : decide (((min (n / 2 * 2) r.size : Nat) : Int) < least) = true := decide_eq_true (by omega)
    clear hlt
    go_enter Tryz.func22, Tryz.ntmps22
    go_wp2_with fail
    refine (odSome w tenSigns A c l 80 (by decide) (by decide) (by omega) HL.out HC.out hc).mono ?_
    rintro e w1 ⟨rfl, hb⟩
    rw [HR.out]
    have HB := Aside0.mk hb
    clear hb
    go_wp2
    go_ret
    exact ⟨_, rfl, HB.out, by unfold DigPost; rw [HDS.out, if_pos (of_decide_eq_true hdd)]⟩
  · have hdd : decide ((n : Int) / 2 * 2 < least) = false := decide_eq_false hlt
    have hd2 : decide (((min (n / 2 * 2) r.size : Nat) : Int) < least) = false := decide_eq_false (by omega)
    clear hlt
    go_enter Tryz.func22, Tryz.ntmps22
    go_wp2_with fail
    refine (odSome w tenSigns A c l 80 (by decide) (by decide) (by omega) HL.out HC.out hc).mono ?_
    rintro e w1 ⟨rfl, hb⟩
    rw [HR.out]
    have HB := Aside0.mk hb
    clear hb
    go_wp2
    go_ret
    exact ⟨_, rfl, HB.out, by unfold DigPost; rw [HDS.out, if_neg (of_decide_eq_false hdd)]; exact HED.out⟩

theorem loop_eq (bs : ByteArray) (i : Nat) (r : List UInt8) : ByteArray.toList.loop bs i r = r.reverse ++ bs.data.toList.drop i := by
  fun_induction ByteArray.toList.loop bs i r with
  | case1 i r h ih =>
    have hl : i < bs.data.toList.length := by rw [Array.length_toList]; exact h
    have hg : bs.get! i = bs.data.toList[i] := by
      show bs.data[i]! = _
      rw [getElem!_pos bs.data i (by simpa using hl)]
      simp
    rw [ih, List.drop_eq_getElem_cons hl, hg]
    simp
  | case2 i r h =>
    have hl : bs.data.toList.length ≤ i := by rw [Array.length_toList]; exact Nat.le_of_not_lt h
    rw [List.drop_of_length_le hl]
    simp
theorem ba_toList (t : ByteArray) : t.toList = t.data.toList := by
  have := loop_eq t 0 []
  simpa [ByteArray.toList] using this

def rFull (code : List Bool) (mg : Int) : Int := code.length + mg
def rOut (code : List Bool) (wd mg : Int) : Int := if rFull code mg < wd then wd else rFull code mg
def rMany (code : List Bool) (wd mg : Int) : Int := rOut code wd mg / rFull code mg
def rLeft (code : List Bool) (wd mg : Int) : Int := (rOut code wd mg - code.length * rMany code wd mg) / 2
/-- The row of a code: its modules, as wide as go in, in the middle. -/
def rowOf (code : List Bool) (wd mg : Int) : List Bool := rowList code (rLeft code wd mg) (rMany code wd mg) (rOut code wd mg).toNat
theorem rowOf_length (code : List Bool) (wd mg : Int) : (rowOf code wd mg).length = (rOut code wd mg).toNat := by simp [rowOf, rowList]
theorem rOut_ge (code : List Bool) (wd mg : Int) (q0 : 0 < (code.length : Int) + mg) (hm1 : mg ≤ 1000) (hw1 : wd ≤ 100000) (hlc : code.length ≤ 100000) : 0 < rOut code wd mg ∧ rOut code wd mg ≤ 200000 := by
  unfold rOut rFull; split <;> omega
theorem odRowOf (code : List Bool) (wd mg : Int) (q0 : 0 < (code.length : Int) + mg) (hm0 : 0 ≤ mg) (hm1 : mg ≤ 1000) (hw0 : 0 ≤ wd) (hw1 : wd ≤ 100000) (hlc : code.length ≤ 100000) :
    Ev (fun k => F.spec_ODRow.f k code wd mg) (rowOf code wd mg) :=
  odRow code wd mg (rFull code mg) (rOut code wd mg) (rMany code wd mg) (rLeft code wd mg) (rOut code wd mg).toNat q0 hm0 hm1 hw0 hw1 hlc rfl rfl rfl rfl (by have := rOut_ge code wd mg q0 hm1 hw1 hlc; omega)
theorem row_eqOf (code : List Bool) (wd mg : Int) (q0 : 0 < (code.length : Int) + mg) (hm0 : 0 ≤ mg) (hm1 : mg ≤ 1000) (hw1 : wd ≤ 100000) (hlc : code.length ≤ 100000) (R : Nat) (hR : (rOut code wd mg + 31) / 32 = (R : Int)) :
    unbits (cpy (paint code (rLeft code wd mg) (rMany code wd mg) (List.replicate R 0) code.length) (List.replicate R 0) 0 R) (rOut code wd mg).toNat = rowOf code wd mg := by
  have ho := rOut_ge code wd mg q0 hm1 hw1 hlc
  have hf : rFull code mg ≤ rOut code wd mg := by unfold rOut; split <;> omega
  have hf0 : 0 < rFull code mg := by unfold rFull; omega
  have hm : 1 ≤ rMany code wd mg := by unfold rMany; exact (Int.le_ediv_iff_mul_le (by omega)).2 (by omega)
  have hlm : (code.length : Int) * rMany code wd mg ≤ rOut code wd mg := by
    unfold rMany
    have h1 := Int.mul_ediv_self_le (x := rOut code wd mg) (k := rFull code mg) (by omega)
    have h4 := Int.mul_le_mul_of_nonneg_right (show (code.length : Int) ≤ rFull code mg by unfold rFull; omega) (show 0 ≤ rOut code wd mg / rFull code mg by exact Int.ediv_nonneg (by omega) (by omega))
    omega
  have hnn : 0 ≤ (code.length : Int) * rMany code wd mg := Int.mul_nonneg (by omega) (by omega)
  exact row_eq code _ _ R _ (by unfold rLeft; omega) hm (by unfold rLeft; omega) (by rw [← hR]; omega)

/-- The last step of a law that writes a row: the reference's row is the same. -/
theorem rowSame (w : World) (b : Nat) (code : List Bool) (wd mg : Int) (A : Option Addr) (c : Nat) (q0 : 0 < (code.length : Int) + mg) (hm1 : mg ≤ 1000) (hw1 : wd ≤ 100000) (hlc : code.length ≤ 100000)
    (hb : Blk w b 4 (bools (rowOf code wd mg)).toArray) (hC : Kd.C Kd.bool w A (rowOf code wd mg).length (rowOf code wd mg)) (hc : (rowOf code wd mg).length ≤ c) (N : Nat) (hN : (rowOf code wd mg).length = N) :
    Calls Tryz.prog 16 #[.slice (some ⟨b, 0, none⟩) N N, .slice A N c] w fun e w' => e = .returned (.bool true) ∧ Below w.heap.size w w' := by
  have hl := rowOf_length code wd mg
  have ho := rOut_ge code wd mg q0 hm1 hw1 hlc
  obtain ⟨k, hk⟩ := (sameBits (rowOf code wd mg) (by omega)).rounds
  subst hN
  refine (F.spec_BISameBits.calls k _ _ _ A c _ true w (C_bools hb (by omega)) (Nat.le_refl _) hC hc hk).mono ?_
  rintro e w' ⟨rfl, h⟩
  exact ⟨rfl, h.below⟩
theorem rowSpec (w : World) (code : List Bool) (wd mg : Int) (A : Option Addr) (c : Nat) (q0 : 0 < (code.length : Int) + mg) (hm0 : 0 ≤ mg) (hm1 : mg ≤ 1000) (hw0 : 0 ≤ wd) (hw1 : wd ≤ 100000) (hlc : code.length ≤ 100000)
    (n : Nat) (hn : code.length = n) (hC : Kd.C Kd.bool w A n code) (hc : n ≤ c) :
    Calls Tryz.prog 17 #[.slice A n c, .int .i64 wd, .int .i64 mg] w fun e w' => ∃ A' c', e = .returned (.slice A' (rowOf code wd mg).length c') ∧ (rowOf code wd mg).length ≤ c' ∧ Kd.C Kd.bool w' A' (rowOf code wd mg).length (rowOf code wd mg) ∧ Below w.heap.size w w' := by
  obtain ⟨k, hk⟩ := (odRowOf code wd mg q0 hm0 hm1 hw0 hw1 hlc).rounds
  subst hn
  refine (F.spec_ODRow.calls k A c code wd mg _ w hC hc hk).mono ?_
  rintro e w' ⟨v, rfl, hr, hb⟩
  obtain ⟨A', c', rfl, h1, h2⟩ := Kd.R_reads hr
  exact ⟨A', c', rfl, h1, h2, hb⟩
/-- The width and the margin. -/
theorem odWidths (w : World) (a b : Int) (ha : 0 ≤ a ∧ a ≤ 65535) (hb : 0 ≤ b ∧ b ≤ 255) :
    Calls Tryz.prog 14 #[.int .u16 a, .int .u8 b] w fun e w' => e = .returned (.tuple #[.int .i64 (a % 3000), .int .i64 (20 + b % 40)]) ∧ Below w.heap.size w w' := by
  refine (F.laws_odWidths.calls a b (a % 3000) (20 + b % 40) w ?_).mono ?_
  · unfold F.laws_odWidths.f
    have e1 : wrap64 a = a := by unfold wrap64; omega
    have e2 : wrap64 b = b := by unfold wrap64; omega
    rw [e1, e2, Int.tmod_eq_emod_of_nonneg ha.1, Int.tmod_eq_emod_of_nonneg hb.1]
    congr 2
    unfold wrap64; omega
  · rintro e w' ⟨rfl, h⟩
    exact ⟨rfl, h.below⟩

theorem wf_u8 {n : Int} (h : (Lit.int .u8 n).wf = true) : 0 ≤ n ∧ n ≤ 255 := by
  simp [Lit.wf, IntKind.min, IntKind.max, IntKind.bits, IntKind.signed] at h
  omega
theorem wf_u16 {n : Int} (h : (Lit.int .u16 n).wf = true) : 0 ≤ n ∧ n ≤ 65535 := by
  simp [Lit.wf, IntKind.min, IntKind.max, IntKind.bits, IntKind.signed] at h
  omega
theorem wf_bytes {l : List Int} (h : ∀ n ∈ l, (Lit.int .u8 n).wf = true) : ∀ v ∈ l, 0 ≤ v ∧ v ≤ 255 := fun v hv => wf_u8 (h v hv)

theorem fmts_upce (w : World) :
    Calls Tryz.prog 179 #[.agg #[]] w fun e w' => e = .returned (.slice (some ⟨w.heap.size + 1, 0, none⟩) 1 1) ∧ w' = (w.alloc (.cells #[] 98)).alloc (.cells (nums .i64 [15]).toArray 49) := by
  go_enter Tryz.func179, Tryz.ntmps179
  go_wp2
  go_ret
  exact ⟨rfl, rfl⟩
theorem new_upce (w : World) : Calls Tryz.prog 56 #[] w fun e w' => e = .returned (.iface 85 (.pointer (some ⟨w.heap.size, 0, none⟩))) ∧ w' = w.alloc (.cells #[.iface 98 (.agg #[]), .int .i64 9] 106) := by
  go_enter Tryz.func56, Tryz.ntmps56
  go_wp2_with (go_at_call 71; refine (newUpc _ _ _).mono ?_; rintro e w' ⟨rfl, rfl⟩)
  go_ret
  exact ⟨rfl, rfl⟩
theorem writer_upce (w : World) : Calls Tryz.prog 29 #[.int .i64 15] w fun e w' => e = .returned (.iface 85 (.pointer (some ⟨w.heap.size, 0, none⟩))) ∧ w' = w.alloc (.cells #[.iface 98 (.agg #[]), .int .i64 9] 106) := by
  go_enter Tryz.func29, Tryz.ntmps29
  go_wp2_with (go_at_call 56; refine (new_upce _).mono ?_; rintro e w' ⟨rfl, rfl⟩)
  go_ret
  exact ⟨rfl, rfl⟩
theorem meth1_upce (W : World) : Sem.run Tryz.prog (method 315 98 (.agg #[]) "given.example/pub-quietzone/pub/gozxing/oned.getSupportedWriteFormats") W = .ok (179, .agg #[]) W := by kernel_rfl
theorem meth2_upce (W : World) : Sem.run Tryz.prog (method 315 98 (.agg #[]) "given.example/pub-quietzone/pub/gozxing/oned.encodeWithHints") W = .ok (178, .agg #[]) W := by kernel_rfl

set_option maxHeartbeats 2000000 in
set_option maxRecDepth 100000 in
theorem encode_upce_ok (w : World) (g gm : Nat) (text : ByteArray) (wd mg : Int) (code : List Bool) (full out many left rs : Int) (R : Nat)
    (hg : Blk w g 106 #[.iface 98 (.agg #[]), .int .i64 9]) (hm : w.heap[gm]? = some (.map #[⟨.int .i64 5, .iface 3 (.int .i64 mg), 0⟩] 1)) (h0 : 0 < text.size) (h1 : 0 ≤ wd)
    (q0 : 0 < (code.length : Int) + mg) (hm0 : 0 ≤ mg) (hm1 : mg ≤ 1000) (hw1 : wd ≤ 100000) (hlc : code.length ≤ 100000)
    (hfull : (code.length : Int) + mg = full) (hout : (if full < wd then wd else full) = out) (hmany : out / full = many) (hleft : (out - code.length * many) / 2 = left) (hrs : (out + 31) / 32 = rs) (hR : rs = (R : Int))
    (henc : ∀ W : World, Calls Tryz.prog 178 #[.agg #[], .string text, .map (some gm)] W fun e w' => ∃ v, e = .returned (.tuple #[v, .nilIface]) ∧ Kd.R Kd.bool 4 w' W.heap.size (fun _ => True) v code ∧ Below W.heap.size W w') :
    Calls Tryz.prog 94 #[.pointer (some ⟨g, 0, none⟩), .string text, .int .i64 15, .int .i64 wd, .int .i64 1, .map (some gm)] w fun e w' => ∃ b, w.heap.size ≤ b ∧ e = .returned (.tuple #[.pointer (some ⟨b + 1, 0, none⟩), .nilIface]) ∧ Blk w' b 78 (nums .u32 (paint code left many (List.replicate R 0) code.length)).toArray ∧ Blk w' (b + 1) 75 #[.int .i64 out, .int .i64 1, .int .i64 rs, .slice (some ⟨b, 0, none⟩) R R] ∧ Below w.heap.size w w' := by
  have c0 : w.cell? ⟨g, 0, none⟩ = some (.iface 98 (.agg #[])) := hg.cell 0
  have hlen : ((text.size : Int) == 0) = false := beq_eq_false_iff_ne.mpr (by omega)
  have hwd : decide (wd < 0) = false := decide_eq_false (by omega)
  have m1 := meth1_upce
  have HG := Aside0.mk hg
  have HM := Aside0.mk hm
  have HE := Aside0.mk henc
  clear hg hm henc
  have HH := Aside0.mk (⟨hfull, hout, hmany, hleft, hrs, hR⟩ : _ ∧ _ ∧ _ ∧ _ ∧ _ ∧ _)
  clear hfull hout hmany hleft hrs hR
  go_enter Tryz.func94, Tryz.ntmps94
  go_wp2_with fail
  refine (fmts_upce w).mono ?_
  rintro e w1 ⟨rfl, hw1⟩
  have hb1 : Below w.heap.size w w1 := by rw [hw1]; exact below_alloc (below_alloc (Below.refl _ _) _) _
  have hf : Blk w1 (w.heap.size + 1) 49 (nums .i64 [15]).toArray := by
    rw [hw1]
    have := Blk.new (w.alloc (.cells #[] 98)) 49 (nums .i64 [15]).toArray
    simpa using this
  clear hw1 c0 m1
  have HB1 := Aside0.mk hb1
  have HF := Aside0.mk hf
  clear hb1 hf
  go_wp2_with fail
  refine (contains1 w1 (w.heap.size + 1) 15 HF.out).mono ?_
  rintro e w2 ⟨rfl, hb2⟩
  have HB2 := Aside0.mk (HB1.out.trans (hb2.mono HB1.out.size))
  clear hb2
  have hg2 := HG.out.below HB2.out HG.out.lt
  have c0 : w2.cell? ⟨g, 0, none⟩ = some (.iface 98 (.agg #[])) := hg2.cell 0
  have c1 : w2.cell? ⟨g, 1, none⟩ = some (.int .i64 9) := hg2.cell 1
  have hl := run_lk w2 gm (.iface 3 (.int .i64 mg)) ((HB2.out.block gm (blk_lt HM.out)).trans HM.out)
  have ha := run_ta mg
  have m2 := meth2_upce
  clear hg2
  go_wp2_with fail
  refine (HE.out w2).mono ?_
  rintro e w3 ⟨v, rfl, hr, hb3⟩
  obtain ⟨A, c, rfl, hcl, hc⟩ := Kd.R_reads hr
  have HB3 := Aside0.mk (HB2.out.trans (hb3.mono HB2.out.size))
  have HC := Aside0.mk hc
  clear hc hcl hr hb3 c0 c1 hl
  go_wp2_with fail
  obtain ⟨hfull, hout, hmany, hleft, hrs, hR⟩ := HH.out
  refine (render w3 A c code wd mg full out many left rs R HC.out q0 hm0 hm1 h1 hw1 hlc hfull hout hmany hleft hrs hR).mono ?_
  clear hfull hout hmany hleft hrs hR
  rintro e w4 ⟨rfl, hx1, hx2, hb4⟩
  have HX1 := Aside0.mk hx1
  have HX2 := Aside0.mk hx2
  have HB4 := Aside0.mk (HB3.out.trans (hb4.mono HB3.out.size))
  clear hx1 hx2 hb4
  go_wp2
  go_ret2
  exact ⟨_, HB3.out.size, rfl, HX1.out, HX2.out, HB4.out⟩

set_option maxHeartbeats 2000000 in
set_option maxRecDepth 100000 in
theorem encode_upce_no (w : World) (g gm : Nat) (text : ByteArray) (wd mg : Int) 
    (hg : Blk w g 106 #[.iface 98 (.agg #[]), .int .i64 9]) (hm : w.heap[gm]? = some (.map #[⟨.int .i64 5, .iface 3 (.int .i64 mg), 0⟩] 1)) (h0 : 0 < text.size) (h1 : 0 ≤ wd)
    (henc : ∀ W : World, Calls Tryz.prog 178 #[.agg #[], .string text, .map (some gm)] W fun e w' => ∃ v x, e = .returned (.tuple #[v, .iface 141 x]) ∧ Below W.heap.size W w') :
    Calls Tryz.prog 94 #[.pointer (some ⟨g, 0, none⟩), .string text, .int .i64 15, .int .i64 wd, .int .i64 1, .map (some gm)] w fun e w' => (∃ x, e = .returned (.tuple #[.pointer none, .iface 141 x])) ∧ Below w.heap.size w w' := by
  have c0 : w.cell? ⟨g, 0, none⟩ = some (.iface 98 (.agg #[])) := hg.cell 0
  have hlen : ((text.size : Int) == 0) = false := beq_eq_false_iff_ne.mpr (by omega)
  have hwd : decide (wd < 0) = false := decide_eq_false (by omega)
  have m1 := meth1_upce
  have HG := Aside0.mk hg
  have HM := Aside0.mk hm
  have HE := Aside0.mk henc
  clear hg hm henc
  go_enter Tryz.func94, Tryz.ntmps94
  go_wp2_with fail
  refine (fmts_upce w).mono ?_
  rintro e w1 ⟨rfl, hw1⟩
  have hb1 : Below w.heap.size w w1 := by rw [hw1]; exact below_alloc (below_alloc (Below.refl _ _) _) _
  have hf : Blk w1 (w.heap.size + 1) 49 (nums .i64 [15]).toArray := by
    rw [hw1]
    have := Blk.new (w.alloc (.cells #[] 98)) 49 (nums .i64 [15]).toArray
    simpa using this
  clear hw1 c0 m1
  have HB1 := Aside0.mk hb1
  have HF := Aside0.mk hf
  clear hb1 hf
  go_wp2_with fail
  refine (contains1 w1 (w.heap.size + 1) 15 HF.out).mono ?_
  rintro e w2 ⟨rfl, hb2⟩
  have HB2 := Aside0.mk (HB1.out.trans (hb2.mono HB1.out.size))
  clear hb2
  have hg2 := HG.out.below HB2.out HG.out.lt
  have c0 : w2.cell? ⟨g, 0, none⟩ = some (.iface 98 (.agg #[])) := hg2.cell 0
  have c1 : w2.cell? ⟨g, 1, none⟩ = some (.int .i64 9) := hg2.cell 1
  have hl := run_lk w2 gm (.iface 3 (.int .i64 mg)) ((HB2.out.block gm (blk_lt HM.out)).trans HM.out)
  have ha := run_ta mg
  have m2 := meth2_upce
  clear hg2
  go_wp2_with fail
  refine (HE.out w2).mono ?_
  rintro e w3 ⟨v, x, rfl, hb3⟩
  have HB3 := Aside0.mk (HB2.out.trans (hb3.mono HB2.out.size))
  clear hb3 c0 c1 hl
  go_wp2
  go_ret2
  exact ⟨⟨_, rfl⟩, HB3.out⟩

set_option maxHeartbeats 2000000 in
set_option maxRecDepth 100000 in
theorem odWrite_upce_ok (w : World) (text : ByteArray) (wd mg : Int) (code : List Bool) (full out many left rs : Int) (R OUT : Nat) (h0 : 0 < text.size) (h1 : 0 ≤ wd)
    (q0 : 0 < (code.length : Int) + mg) (hm0 : 0 ≤ mg) (hm1 : mg ≤ 1000) (hw1 : wd ≤ 100000) (hlc : code.length ≤ 100000)
    (hfull : (code.length : Int) + mg = full) (hout : (if full < wd then wd else full) = out) (hmany : out / full = many) (hleft : (out - code.length * many) / 2 = left) (hrs : (out + 31) / 32 = rs) (hR : rs = (R : Int)) (hOUT : out = (OUT : Int))
    (henc : ∀ (gm : Nat) (W : World), Calls Tryz.prog 178 #[.agg #[], .string text, .map (some gm)] W fun e w' => ∃ v, e = .returned (.tuple #[v, .nilIface]) ∧ Kd.R Kd.bool 4 w' W.heap.size (fun _ => True) v code ∧ Below W.heap.size W w') :
    Calls Tryz.prog 15 #[.int .i64 15, .string text, .int .i64 wd, .int .i64 mg] w fun e w' => ∃ b, e = .returned (.tuple #[.slice (some ⟨b, 0, none⟩) OUT OUT, .bool true]) ∧ Blk w' b 4 (bools (unbits (cpy (paint code left many (List.replicate R 0) code.length) (List.replicate R 0) 0 R) OUT)).toArray ∧ Below w.heap.size w w' := by
  have hmm := @run_makeMap Tryz.prog
  have HE := Aside0.mk henc
  clear henc
  have HH := Aside0.mk (⟨hfull, hout, hmany, hleft, hrs, hR, hOUT⟩ : _ ∧ _ ∧ _ ∧ _ ∧ _ ∧ _ ∧ _)
  have hob : 0 ≤ out ∧ out ≤ 200000 := by split at hout <;> omega
  obtain ⟨hob1, hob2⟩ := hob
  clear hfull hout hmany hleft hrs hR hOUT
  go_enter Tryz.func15, Tryz.ntmps15
  go_wp2_with fail
  refine (writer_upce w).mono ?_
  rintro e w1 ⟨rfl, hw1⟩
  have hi := run_ins w1 (.iface 3 (.int .i64 mg))
  have hq := methE w.heap.size
  have hb1 : Below w.heap.size w w1 := by rw [hw1]; exact below_alloc (Below.refl _ _) _
  have hg : Blk w1 w.heap.size 106 #[.iface 98 (.agg #[]), .int .i64 9] := by rw [hw1]; exact Blk.new _ _ _
  have HB1 := Aside0.mk hb1
  have HG := Aside0.mk hg
  clear hw1 hb1 hg
  go_wp2_with fail
  obtain ⟨hfull, hout, hmany, hleft, hrs, hR, hOUT⟩ := HH.out
  have hma : Below w1.heap.size w1 (w1.alloc (.map #[⟨.int .i64 5, .iface 3 (.int .i64 mg), 0⟩] 1)) := below_alloc (Below.refl _ _) _
  refine (encode_upce_ok _ w.heap.size w1.heap.size text wd mg code full out many left rs R (HG.out.below hma HG.out.lt) (heap_alloc_new _ _) h0 h1 q0 hm0 hm1 hw1 hlc hfull hout hmany hleft hrs hR (HE.out _)).mono ?_
  rintro e w2 ⟨b, hb, rfl, hx1, hx2, hb2⟩
  have hl : (paint code left many (List.replicate R 0) code.length).length = R := by rw [paint_length, List.length_replicate]
  have HX1 := Aside0.mk hx1
  have HX2 := Aside0.mk hx2
  have HB2 := Aside0.mk (HB1.out.trans ((hma.mono HB1.out.size).trans (hb2.mono (Nat.le_trans HB1.out.size hma.size))))
  have HLL := Aside0.mk hl
  clear hfull hout hmany hleft hrs hR hOUT hma hx1 hx2 hb2 hl hi hmm hq hb
  go_wp2_with fail
  obtain ⟨hfull, hout, hmany, hleft, hrs, hR, hOUT⟩ := HH.out
  refine (getRow w2 (b + 1) b out 1 rs 0 _ R R HX2.out HX1.out HLL.out (by omega) hrs hR (by omega) (by omega) (by omega) (by omega) (by omega)).mono ?_
  rintro e w3 ⟨rfl, hy1, hy2, hb3, hsz⟩
  rw [Int.zero_mul] at hy1
  have hl2 : (cpy (paint code left many (List.replicate R 0) code.length) (List.replicate R 0) 0 R).length = R := by rw [cpy_length, List.length_replicate]
  have HY1 := Aside0.mk hy1
  rw [hOUT] at hy2
  have HY2 := Aside0.mk hy2
  have HB3 := Aside0.mk (HB2.out.trans (hb3.mono HB2.out.size))
  have HL2 := Aside0.mk hl2
  have h32 : ((OUT : Int) + 31) / 32 = R := by rw [← hOUT, hrs, hR]
  have H32 := Aside0.mk h32
  have hou : OUT ≤ 200000 := by omega
  clear hfull hout hmany hleft hrs hR hy1 hy2 hb3 hsz hl2 h32 HLL hOUT
  go_wp2_with fail
  refine (toBools w3 _ _ OUT _ R HY2.out HY1.out HL2.out (by have := H32.out; omega) (by omega) H32.out).mono ?_
  rintro e w4 ⟨rfl, hz, hb4⟩
  have HZ := Aside0.mk hz
  have HB4 := Aside0.mk (HB3.out.trans (hb4.mono HB3.out.size))
  clear hz hb4
  go_wp2
  go_ret2
  exact ⟨_, rfl, HZ.out, HB4.out⟩

set_option maxHeartbeats 2000000 in
set_option maxRecDepth 100000 in
theorem odWrite_upce_no (w : World) (text : ByteArray) (wd mg : Int) (h0 : 0 < text.size) (h1 : 0 ≤ wd)
    (henc : ∀ (gm : Nat) (W : World), Calls Tryz.prog 178 #[.agg #[], .string text, .map (some gm)] W fun e w' => ∃ v x, e = .returned (.tuple #[v, .iface 141 x]) ∧ Below W.heap.size W w') :
    Calls Tryz.prog 15 #[.int .i64 15, .string text, .int .i64 wd, .int .i64 mg] w fun e w' => e = .returned (.tuple #[.slice none 0 0, .bool false]) ∧ Below w.heap.size w w' := by
  have hmm := @run_makeMap Tryz.prog
  have HE := Aside0.mk henc
  clear henc
  go_enter Tryz.func15, Tryz.ntmps15
  go_wp2_with fail
  refine (writer_upce w).mono ?_
  rintro e w1 ⟨rfl, hw1⟩
  have hi := run_ins w1 (.iface 3 (.int .i64 mg))
  have hq := methE w.heap.size
  have hb1 : Below w.heap.size w w1 := by rw [hw1]; exact below_alloc (Below.refl _ _) _
  have hg : Blk w1 w.heap.size 106 #[.iface 98 (.agg #[]), .int .i64 9] := by rw [hw1]; exact Blk.new _ _ _
  have HB1 := Aside0.mk hb1
  have HG := Aside0.mk hg
  clear hw1 hb1 hg
  go_wp2_with fail
  have hma : Below w1.heap.size w1 (w1.alloc (.map #[⟨.int .i64 5, .iface 3 (.int .i64 mg), 0⟩] 1)) := below_alloc (Below.refl _ _) _
  refine (encode_upce_no _ w.heap.size w1.heap.size text wd mg (HG.out.below hma HG.out.lt) (heap_alloc_new _ _) h0 h1 (HE.out _)).mono ?_
  rintro e w2 ⟨⟨x, rfl⟩, hb2⟩
  have HB2 := Aside0.mk (HB1.out.trans ((hma.mono HB1.out.size).trans (hb2.mono (Nat.le_trans HB1.out.size hma.size))))
  clear hma hb2 hi hmm hq
  go_wp2
  go_ret2
  exact ⟨rfl, HB2.out⟩

/-- ODWrite of the format 15: the row of the code. -/
theorem odRowW_upce (w : World) (text : ByteArray) (wd mg : Int) (code : List Bool) (h0 : 0 < text.size) (h1 : 0 ≤ wd)
    (q0 : 0 < (code.length : Int) + mg) (hm0 : 0 ≤ mg) (hm1 : mg ≤ 1000) (hw1 : wd ≤ 100000) (hlc : code.length ≤ 100000)
    (henc : ∀ (gm : Nat) (W : World), Calls Tryz.prog 178 #[.agg #[], .string text, .map (some gm)] W fun e w' => ∃ v, e = .returned (.tuple #[v, .nilIface]) ∧ Kd.R Kd.bool 4 w' W.heap.size (fun _ => True) v code ∧ Below W.heap.size W w') :
    Calls Tryz.prog 15 #[.int .i64 15, .string text, .int .i64 wd, .int .i64 mg] w fun e w' => ∃ b, e = .returned (.tuple #[.slice (some ⟨b, 0, none⟩) (rowOf code wd mg).length (rowOf code wd mg).length, .bool true]) ∧ Blk w' b 4 (bools (rowOf code wd mg)).toArray ∧ Below w.heap.size w w' := by
  have ho := rOut_ge code wd mg q0 hm1 hw1 hlc
  refine (odWrite_upce_ok w text wd mg code (rFull code mg) (rOut code wd mg) (rMany code wd mg) (rLeft code wd mg) ((rOut code wd mg + 31) / 32) ((rOut code wd mg + 31) / 32).toNat (rOut code wd mg).toNat h0 h1 q0 hm0 hm1 hw1 hlc rfl rfl rfl rfl rfl (by omega) (by omega) henc).mono ?_
  rintro e w' ⟨b, rfl, hb, hw⟩
  rw [row_eqOf code wd mg q0 hm0 hm1 hw1 hlc _ (by omega)] at hb
  exact ⟨b, by rw [rowOf_length], hb, hw⟩

theorem fmts_ean13 (w : World) :
    Calls Tryz.prog 168 #[.agg #[]] w fun e w' => e = .returned (.slice (some ⟨w.heap.size + 1, 0, none⟩) 1 1) ∧ w' = (w.alloc (.cells #[] 93)).alloc (.cells (nums .i64 [7]).toArray 49) := by
  go_enter Tryz.func168, Tryz.ntmps168
  go_wp2
  go_ret
  exact ⟨rfl, rfl⟩
theorem new_ean13 (w : World) : Calls Tryz.prog 53 #[] w fun e w' => e = .returned (.iface 85 (.pointer (some ⟨w.heap.size, 0, none⟩))) ∧ w' = w.alloc (.cells #[.iface 93 (.agg #[]), .int .i64 9] 106) := by
  go_enter Tryz.func53, Tryz.ntmps53
  go_wp2_with (go_at_call 71; refine (newUpc _ _ _).mono ?_; rintro e w' ⟨rfl, rfl⟩)
  go_ret
  exact ⟨rfl, rfl⟩
theorem writer_ean13 (w : World) : Calls Tryz.prog 29 #[.int .i64 7] w fun e w' => e = .returned (.iface 85 (.pointer (some ⟨w.heap.size, 0, none⟩))) ∧ w' = w.alloc (.cells #[.iface 93 (.agg #[]), .int .i64 9] 106) := by
  go_enter Tryz.func29, Tryz.ntmps29
  go_wp2_with (go_at_call 53; refine (new_ean13 _).mono ?_; rintro e w' ⟨rfl, rfl⟩)
  go_ret
  exact ⟨rfl, rfl⟩
theorem meth1_ean13 (W : World) : Sem.run Tryz.prog (method 315 93 (.agg #[]) "given.example/pub-quietzone/pub/gozxing/oned.getSupportedWriteFormats") W = .ok (168, .agg #[]) W := by kernel_rfl
theorem meth2_ean13 (W : World) : Sem.run Tryz.prog (method 315 93 (.agg #[]) "given.example/pub-quietzone/pub/gozxing/oned.encodeWithHints") W = .ok (167, .agg #[]) W := by kernel_rfl

set_option maxHeartbeats 2000000 in
set_option maxRecDepth 100000 in
theorem encode_ean13_ok (w : World) (g gm : Nat) (text : ByteArray) (wd mg : Int) (code : List Bool) (full out many left rs : Int) (R : Nat)
    (hg : Blk w g 106 #[.iface 93 (.agg #[]), .int .i64 9]) (hm : w.heap[gm]? = some (.map #[⟨.int .i64 5, .iface 3 (.int .i64 mg), 0⟩] 1)) (h0 : 0 < text.size) (h1 : 0 ≤ wd)
    (q0 : 0 < (code.length : Int) + mg) (hm0 : 0 ≤ mg) (hm1 : mg ≤ 1000) (hw1 : wd ≤ 100000) (hlc : code.length ≤ 100000)
    (hfull : (code.length : Int) + mg = full) (hout : (if full < wd then wd else full) = out) (hmany : out / full = many) (hleft : (out - code.length * many) / 2 = left) (hrs : (out + 31) / 32 = rs) (hR : rs = (R : Int))
    (henc : ∀ W : World, Calls Tryz.prog 167 #[.agg #[], .string text, .map (some gm)] W fun e w' => ∃ v, e = .returned (.tuple #[v, .nilIface]) ∧ Kd.R Kd.bool 4 w' W.heap.size (fun _ => True) v code ∧ Below W.heap.size W w') :
    Calls Tryz.prog 94 #[.pointer (some ⟨g, 0, none⟩), .string text, .int .i64 7, .int .i64 wd, .int .i64 1, .map (some gm)] w fun e w' => ∃ b, w.heap.size ≤ b ∧ e = .returned (.tuple #[.pointer (some ⟨b + 1, 0, none⟩), .nilIface]) ∧ Blk w' b 78 (nums .u32 (paint code left many (List.replicate R 0) code.length)).toArray ∧ Blk w' (b + 1) 75 #[.int .i64 out, .int .i64 1, .int .i64 rs, .slice (some ⟨b, 0, none⟩) R R] ∧ Below w.heap.size w w' := by
  have c0 : w.cell? ⟨g, 0, none⟩ = some (.iface 93 (.agg #[])) := hg.cell 0
  have hlen : ((text.size : Int) == 0) = false := beq_eq_false_iff_ne.mpr (by omega)
  have hwd : decide (wd < 0) = false := decide_eq_false (by omega)
  have m1 := meth1_ean13
  have HG := Aside0.mk hg
  have HM := Aside0.mk hm
  have HE := Aside0.mk henc
  clear hg hm henc
  have HH := Aside0.mk (⟨hfull, hout, hmany, hleft, hrs, hR⟩ : _ ∧ _ ∧ _ ∧ _ ∧ _ ∧ _)
  clear hfull hout hmany hleft hrs hR
  go_enter Tryz.func94, Tryz.ntmps94
  go_wp2_with fail
  refine (fmts_ean13 w).mono ?_
  rintro e w1 ⟨rfl, hw1⟩
  have hb1 : Below w.heap.size w w1 := by rw [hw1]; exact below_alloc (below_alloc (Below.refl _ _) _) _
  have hf : Blk w1 (w.heap.size + 1) 49 (nums .i64 [7]).toArray := by
    rw [hw1]
    have := Blk.new (w.alloc (.cells #[] 93)) 49 (nums .i64 [7]).toArray
    simpa using this
  clear hw1 c0 m1
  have HB1 := Aside0.mk hb1
  have HF := Aside0.mk hf
  clear hb1 hf
  go_wp2_with fail
  refine (contains1 w1 (w.heap.size + 1) 7 HF.out).mono ?_
  rintro e w2 ⟨rfl, hb2⟩
  have HB2 := Aside0.mk (HB1.out.trans (hb2.mono HB1.out.size))
  clear hb2
  have hg2 := HG.out.below HB2.out HG.out.lt
  have c0 : w2.cell? ⟨g, 0, none⟩ = some (.iface 93 (.agg #[])) := hg2.cell 0
  have c1 : w2.cell? ⟨g, 1, none⟩ = some (.int .i64 9) := hg2.cell 1
  have hl := run_lk w2 gm (.iface 3 (.int .i64 mg)) ((HB2.out.block gm (blk_lt HM.out)).trans HM.out)
  have ha := run_ta mg
  have m2 := meth2_ean13
  clear hg2
  go_wp2_with fail
  refine (HE.out w2).mono ?_
  rintro e w3 ⟨v, rfl, hr, hb3⟩
  obtain ⟨A, c, rfl, hcl, hc⟩ := Kd.R_reads hr
  have HB3 := Aside0.mk (HB2.out.trans (hb3.mono HB2.out.size))
  have HC := Aside0.mk hc
  clear hc hcl hr hb3 c0 c1 hl
  go_wp2_with fail
  obtain ⟨hfull, hout, hmany, hleft, hrs, hR⟩ := HH.out
  refine (render w3 A c code wd mg full out many left rs R HC.out q0 hm0 hm1 h1 hw1 hlc hfull hout hmany hleft hrs hR).mono ?_
  clear hfull hout hmany hleft hrs hR
  rintro e w4 ⟨rfl, hx1, hx2, hb4⟩
  have HX1 := Aside0.mk hx1
  have HX2 := Aside0.mk hx2
  have HB4 := Aside0.mk (HB3.out.trans (hb4.mono HB3.out.size))
  clear hx1 hx2 hb4
  go_wp2
  go_ret2
  exact ⟨_, HB3.out.size, rfl, HX1.out, HX2.out, HB4.out⟩

set_option maxHeartbeats 2000000 in
set_option maxRecDepth 100000 in
theorem encode_ean13_no (w : World) (g gm : Nat) (text : ByteArray) (wd mg : Int) 
    (hg : Blk w g 106 #[.iface 93 (.agg #[]), .int .i64 9]) (hm : w.heap[gm]? = some (.map #[⟨.int .i64 5, .iface 3 (.int .i64 mg), 0⟩] 1)) (h0 : 0 < text.size) (h1 : 0 ≤ wd)
    (henc : ∀ W : World, Calls Tryz.prog 167 #[.agg #[], .string text, .map (some gm)] W fun e w' => ∃ v x, e = .returned (.tuple #[v, .iface 141 x]) ∧ Below W.heap.size W w') :
    Calls Tryz.prog 94 #[.pointer (some ⟨g, 0, none⟩), .string text, .int .i64 7, .int .i64 wd, .int .i64 1, .map (some gm)] w fun e w' => (∃ x, e = .returned (.tuple #[.pointer none, .iface 141 x])) ∧ Below w.heap.size w w' := by
  have c0 : w.cell? ⟨g, 0, none⟩ = some (.iface 93 (.agg #[])) := hg.cell 0
  have hlen : ((text.size : Int) == 0) = false := beq_eq_false_iff_ne.mpr (by omega)
  have hwd : decide (wd < 0) = false := decide_eq_false (by omega)
  have m1 := meth1_ean13
  have HG := Aside0.mk hg
  have HM := Aside0.mk hm
  have HE := Aside0.mk henc
  clear hg hm henc
  go_enter Tryz.func94, Tryz.ntmps94
  go_wp2_with fail
  refine (fmts_ean13 w).mono ?_
  rintro e w1 ⟨rfl, hw1⟩
  have hb1 : Below w.heap.size w w1 := by rw [hw1]; exact below_alloc (below_alloc (Below.refl _ _) _) _
  have hf : Blk w1 (w.heap.size + 1) 49 (nums .i64 [7]).toArray := by
    rw [hw1]
    have := Blk.new (w.alloc (.cells #[] 93)) 49 (nums .i64 [7]).toArray
    simpa using this
  clear hw1 c0 m1
  have HB1 := Aside0.mk hb1
  have HF := Aside0.mk hf
  clear hb1 hf
  go_wp2_with fail
  refine (contains1 w1 (w.heap.size + 1) 7 HF.out).mono ?_
  rintro e w2 ⟨rfl, hb2⟩
  have HB2 := Aside0.mk (HB1.out.trans (hb2.mono HB1.out.size))
  clear hb2
  have hg2 := HG.out.below HB2.out HG.out.lt
  have c0 : w2.cell? ⟨g, 0, none⟩ = some (.iface 93 (.agg #[])) := hg2.cell 0
  have c1 : w2.cell? ⟨g, 1, none⟩ = some (.int .i64 9) := hg2.cell 1
  have hl := run_lk w2 gm (.iface 3 (.int .i64 mg)) ((HB2.out.block gm (blk_lt HM.out)).trans HM.out)
  have ha := run_ta mg
  have m2 := meth2_ean13
  clear hg2
  go_wp2_with fail
  refine (HE.out w2).mono ?_
  rintro e w3 ⟨v, x, rfl, hb3⟩
  have HB3 := Aside0.mk (HB2.out.trans (hb3.mono HB2.out.size))
  clear hb3 c0 c1 hl
  go_wp2
  go_ret2
  exact ⟨⟨_, rfl⟩, HB3.out⟩

set_option maxHeartbeats 2000000 in
set_option maxRecDepth 100000 in
theorem odWrite_ean13_ok (w : World) (text : ByteArray) (wd mg : Int) (code : List Bool) (full out many left rs : Int) (R OUT : Nat) (h0 : 0 < text.size) (h1 : 0 ≤ wd)
    (q0 : 0 < (code.length : Int) + mg) (hm0 : 0 ≤ mg) (hm1 : mg ≤ 1000) (hw1 : wd ≤ 100000) (hlc : code.length ≤ 100000)
    (hfull : (code.length : Int) + mg = full) (hout : (if full < wd then wd else full) = out) (hmany : out / full = many) (hleft : (out - code.length * many) / 2 = left) (hrs : (out + 31) / 32 = rs) (hR : rs = (R : Int)) (hOUT : out = (OUT : Int))
    (henc : ∀ (gm : Nat) (W : World), Calls Tryz.prog 167 #[.agg #[], .string text, .map (some gm)] W fun e w' => ∃ v, e = .returned (.tuple #[v, .nilIface]) ∧ Kd.R Kd.bool 4 w' W.heap.size (fun _ => True) v code ∧ Below W.heap.size W w') :
    Calls Tryz.prog 15 #[.int .i64 7, .string text, .int .i64 wd, .int .i64 mg] w fun e w' => ∃ b, e = .returned (.tuple #[.slice (some ⟨b, 0, none⟩) OUT OUT, .bool true]) ∧ Blk w' b 4 (bools (unbits (cpy (paint code left many (List.replicate R 0) code.length) (List.replicate R 0) 0 R) OUT)).toArray ∧ Below w.heap.size w w' := by
  have hmm := @run_makeMap Tryz.prog
  have HE := Aside0.mk henc
  clear henc
  have HH := Aside0.mk (⟨hfull, hout, hmany, hleft, hrs, hR, hOUT⟩ : _ ∧ _ ∧ _ ∧ _ ∧ _ ∧ _ ∧ _)
  have hob : 0 ≤ out ∧ out ≤ 200000 := by split at hout <;> omega
  obtain ⟨hob1, hob2⟩ := hob
  clear hfull hout hmany hleft hrs hR hOUT
  go_enter Tryz.func15, Tryz.ntmps15
  go_wp2_with fail
  refine (writer_ean13 w).mono ?_
  rintro e w1 ⟨rfl, hw1⟩
  have hi := run_ins w1 (.iface 3 (.int .i64 mg))
  have hq := methE w.heap.size
  have hb1 : Below w.heap.size w w1 := by rw [hw1]; exact below_alloc (Below.refl _ _) _
  have hg : Blk w1 w.heap.size 106 #[.iface 93 (.agg #[]), .int .i64 9] := by rw [hw1]; exact Blk.new _ _ _
  have HB1 := Aside0.mk hb1
  have HG := Aside0.mk hg
  clear hw1 hb1 hg
  go_wp2_with fail
  obtain ⟨hfull, hout, hmany, hleft, hrs, hR, hOUT⟩ := HH.out
  have hma : Below w1.heap.size w1 (w1.alloc (.map #[⟨.int .i64 5, .iface 3 (.int .i64 mg), 0⟩] 1)) := below_alloc (Below.refl _ _) _
  refine (encode_ean13_ok _ w.heap.size w1.heap.size text wd mg code full out many left rs R (HG.out.below hma HG.out.lt) (heap_alloc_new _ _) h0 h1 q0 hm0 hm1 hw1 hlc hfull hout hmany hleft hrs hR (HE.out _)).mono ?_
  rintro e w2 ⟨b, hb, rfl, hx1, hx2, hb2⟩
  have hl : (paint code left many (List.replicate R 0) code.length).length = R := by rw [paint_length, List.length_replicate]
  have HX1 := Aside0.mk hx1
  have HX2 := Aside0.mk hx2
  have HB2 := Aside0.mk (HB1.out.trans ((hma.mono HB1.out.size).trans (hb2.mono (Nat.le_trans HB1.out.size hma.size))))
  have HLL := Aside0.mk hl
  clear hfull hout hmany hleft hrs hR hOUT hma hx1 hx2 hb2 hl hi hmm hq hb
  go_wp2_with fail
  obtain ⟨hfull, hout, hmany, hleft, hrs, hR, hOUT⟩ := HH.out
  refine (getRow w2 (b + 1) b out 1 rs 0 _ R R HX2.out HX1.out HLL.out (by omega) hrs hR (by omega) (by omega) (by omega) (by omega) (by omega)).mono ?_
  rintro e w3 ⟨rfl, hy1, hy2, hb3, hsz⟩
  rw [Int.zero_mul] at hy1
  have hl2 : (cpy (paint code left many (List.replicate R 0) code.length) (List.replicate R 0) 0 R).length = R := by rw [cpy_length, List.length_replicate]
  have HY1 := Aside0.mk hy1
  rw [hOUT] at hy2
  have HY2 := Aside0.mk hy2
  have HB3 := Aside0.mk (HB2.out.trans (hb3.mono HB2.out.size))
  have HL2 := Aside0.mk hl2
  have h32 : ((OUT : Int) + 31) / 32 = R := by rw [← hOUT, hrs, hR]
  have H32 := Aside0.mk h32
  have hou : OUT ≤ 200000 := by omega
  clear hfull hout hmany hleft hrs hR hy1 hy2 hb3 hsz hl2 h32 HLL hOUT
  go_wp2_with fail
  refine (toBools w3 _ _ OUT _ R HY2.out HY1.out HL2.out (by have := H32.out; omega) (by omega) H32.out).mono ?_
  rintro e w4 ⟨rfl, hz, hb4⟩
  have HZ := Aside0.mk hz
  have HB4 := Aside0.mk (HB3.out.trans (hb4.mono HB3.out.size))
  clear hz hb4
  go_wp2
  go_ret2
  exact ⟨_, rfl, HZ.out, HB4.out⟩

set_option maxHeartbeats 2000000 in
set_option maxRecDepth 100000 in
theorem odWrite_ean13_no (w : World) (text : ByteArray) (wd mg : Int) (h0 : 0 < text.size) (h1 : 0 ≤ wd)
    (henc : ∀ (gm : Nat) (W : World), Calls Tryz.prog 167 #[.agg #[], .string text, .map (some gm)] W fun e w' => ∃ v x, e = .returned (.tuple #[v, .iface 141 x]) ∧ Below W.heap.size W w') :
    Calls Tryz.prog 15 #[.int .i64 7, .string text, .int .i64 wd, .int .i64 mg] w fun e w' => e = .returned (.tuple #[.slice none 0 0, .bool false]) ∧ Below w.heap.size w w' := by
  have hmm := @run_makeMap Tryz.prog
  have HE := Aside0.mk henc
  clear henc
  go_enter Tryz.func15, Tryz.ntmps15
  go_wp2_with fail
  refine (writer_ean13 w).mono ?_
  rintro e w1 ⟨rfl, hw1⟩
  have hi := run_ins w1 (.iface 3 (.int .i64 mg))
  have hq := methE w.heap.size
  have hb1 : Below w.heap.size w w1 := by rw [hw1]; exact below_alloc (Below.refl _ _) _
  have hg : Blk w1 w.heap.size 106 #[.iface 93 (.agg #[]), .int .i64 9] := by rw [hw1]; exact Blk.new _ _ _
  have HB1 := Aside0.mk hb1
  have HG := Aside0.mk hg
  clear hw1 hb1 hg
  go_wp2_with fail
  have hma : Below w1.heap.size w1 (w1.alloc (.map #[⟨.int .i64 5, .iface 3 (.int .i64 mg), 0⟩] 1)) := below_alloc (Below.refl _ _) _
  refine (encode_ean13_no _ w.heap.size w1.heap.size text wd mg (HG.out.below hma HG.out.lt) (heap_alloc_new _ _) h0 h1 (HE.out _)).mono ?_
  rintro e w2 ⟨⟨x, rfl⟩, hb2⟩
  have HB2 := Aside0.mk (HB1.out.trans ((hma.mono HB1.out.size).trans (hb2.mono (Nat.le_trans HB1.out.size hma.size))))
  clear hma hb2 hi hmm hq
  go_wp2
  go_ret2
  exact ⟨rfl, HB2.out⟩

/-- ODWrite of the format 7: the row of the code. -/
theorem odRowW_ean13 (w : World) (text : ByteArray) (wd mg : Int) (code : List Bool) (h0 : 0 < text.size) (h1 : 0 ≤ wd)
    (q0 : 0 < (code.length : Int) + mg) (hm0 : 0 ≤ mg) (hm1 : mg ≤ 1000) (hw1 : wd ≤ 100000) (hlc : code.length ≤ 100000)
    (henc : ∀ (gm : Nat) (W : World), Calls Tryz.prog 167 #[.agg #[], .string text, .map (some gm)] W fun e w' => ∃ v, e = .returned (.tuple #[v, .nilIface]) ∧ Kd.R Kd.bool 4 w' W.heap.size (fun _ => True) v code ∧ Below W.heap.size W w') :
    Calls Tryz.prog 15 #[.int .i64 7, .string text, .int .i64 wd, .int .i64 mg] w fun e w' => ∃ b, e = .returned (.tuple #[.slice (some ⟨b, 0, none⟩) (rowOf code wd mg).length (rowOf code wd mg).length, .bool true]) ∧ Blk w' b 4 (bools (rowOf code wd mg)).toArray ∧ Below w.heap.size w w' := by
  have ho := rOut_ge code wd mg q0 hm1 hw1 hlc
  refine (odWrite_ean13_ok w text wd mg code (rFull code mg) (rOut code wd mg) (rMany code wd mg) (rLeft code wd mg) ((rOut code wd mg + 31) / 32) ((rOut code wd mg + 31) / 32).toNat (rOut code wd mg).toNat h0 h1 q0 hm0 hm1 hw1 hlc rfl rfl rfl rfl rfl (by omega) (by omega) henc).mono ?_
  rintro e w' ⟨b, rfl, hb, hw⟩
  rw [row_eqOf code wd mg q0 hm0 hm1 hw1 hlc _ (by omega)] at hb
  exact ⟨b, by rw [rowOf_length], hb, hw⟩

/-! ### Rows of modules -/
/-- Runs of modules, in turns of two colours. -/
def bars (c : Bool) : List Int → List Bool
  | [] => []
  | n :: ns => List.replicate n.toNat c ++ bars (!c) ns
/-- A row whose first modules are ys. -/
def put {α : Type} (xs ys : List α) : List α := ys ++ xs.drop ys.length
theorem put_length {α : Type} (xs ys : List α) (h : ys.length ≤ xs.length) : (put xs ys).length = xs.length := by simp [put]; omega
theorem put_set {α : Type} (xs ys : List α) (v : α) (h : ys.length < xs.length) : (put xs ys).set ys.length v = put xs (ys ++ [v]) := by
  unfold put
  rw [List.set_append_right _ _ (Nat.le_refl _), Nat.sub_self, List.drop_eq_getElem_cons h, List.set_cons_zero]
  simp
theorem put_all {α : Type} (xs ys : List α) (h : ys.length = xs.length) : put xs ys = ys := by simp [put, h]
theorem put_nil {α : Type} (xs : List α) : put xs [] = xs := by simp [put]

theorem app_in (xs : List Bool) (c : Bool) (num len : Int) (ps : List Int) (plen idx : Int) (hX : xs.length ≤ 1000000000) (r : Int × List Bool) :
    ∀ (d : Nat) (ys : List Bool) (j : Int), 0 ≤ j → len - j = d → (ys.length : Int) + d ≤ xs.length → len ≤ 1000000 →
      Ev (fun k => F.oned_onedWriter_appendPattern.l0 k (put xs (ys ++ List.replicate d c)) (ys.length + d) (!c) (wrap64 (num + len)) ps plen (wrap64 (idx + 1))) r →
      Ev (fun k => F.oned_onedWriter_appendPattern.l1 k (put xs ys) ys.length c num len j ps plen idx) r := by
  intro d
  induction d with
  | zero =>
    intro ys j h0 hd hl hlen h
    refine Ev.step (fun k => ?_) h
    rw [F.oned_onedWriter_appendPattern.l1, if_neg (by omega)]
    simp
  | succ d ih =>
    intro ys j h0 hd hl hlen h
    have hpl := put_length xs ys (by omega)
    refine Ev.step (f := fun k => F.oned_onedWriter_appendPattern.l1 k (put xs (ys ++ [c])) ((ys ++ [c]).length : Nat) c num len (j + 1) ps plen idx) (fun k => ?_) ?_
    · rw [F.oned_onedWriter_appendPattern.l1, if_pos (by omega), if_pos (by omega), if_pos (by rw [hpl]; omega)]
      rw [Int.toNat_natCast, put_set _ _ _ (by omega), show wrap64 ((ys.length : Int) + 1) = ((ys ++ [c]).length : Nat) by simp; unfold wrap64; omega, show wrap64 (j + 1) = j + 1 by unfold wrap64; omega]
    · refine ih (ys ++ [c]) (j + 1) (by omega) (by omega) (by simp; omega) hlen ?_
      have e : ys ++ [c] ++ List.replicate d c = ys ++ List.replicate (d + 1) c := by simp [List.replicate_succ]
      rw [e]
      simp only [List.length_append, List.length_cons, List.length_nil]
      have e2 : (((ys.length + (0 + 1) : Nat) : Int) + (d : Int)) = (ys.length : Int) + ((d + 1 : Nat) : Int) := by omega
      rw [e2]
      exact h

theorem app_out (xs : List Bool) (ps : List Int) (hX : xs.length ≤ 1000000000) (hp : ∀ p ∈ ps, 0 ≤ p ∧ p ≤ 1000000) :
    ∀ (qs : List Int) (done : List Int) (ys : List Bool) (c : Bool) (num : Int), ps = done ++ qs → ys.length + (bars c qs).length ≤ xs.length → ps.length ≤ 1000000 → 0 ≤ num → num + (bars c qs).length ≤ 1000000000 →
      Ev (fun k => F.oned_onedWriter_appendPattern.l0 k (put xs ys) ys.length c num ps ps.length done.length) (num + (bars c qs).length, put xs (ys ++ bars c qs)) := by
  intro qs
  induction qs with
  | nil =>
    intro done ys c num he hl hpl h0 hn
    refine Ev.step (f := fun _ => some (num, put xs ys)) (fun k => ?_) ?_
    · rw [F.oned_onedWriter_appendPattern.l0, if_neg (by rw [he]; simp)]
    · simpa [bars] using Ev.now (num, put xs ys)
  | cons q qs ih =>
    intro done ys c num he hl hpl h0 hn
    have hq := hp q (by rw [he]; simp)
    have hlen : (bars c (q :: qs)).length = q.toNat + (bars (!c) qs).length := by simp [bars]
    have hlt : (done.length : Int) < ps.length := by rw [he]; simp; omega
    have hrd : rd ps done.length = q := by simp [rd, he]
    refine Ev.step (f := fun k => F.oned_onedWriter_appendPattern.l1 k (put xs ys) ys.length c num q 0 ps ps.length done.length) (fun k => ?_) ?_
    · rw [F.oned_onedWriter_appendPattern.l0, if_pos hlt, if_pos (by omega), if_pos hlt, hrd]
    · refine app_in xs c num q ps ps.length done.length hX _ q.toNat ys 0 (by omega) (by omega) (by omega) (by omega) ?_
      have := ih (done ++ [q]) (ys ++ List.replicate q.toNat c) (!c) (num + q) (by simp [he]) (by simp; omega) hpl (by omega) (by omega)
      rw [show wrap64 (num + q) = num + q by unfold wrap64; omega, show wrap64 ((done.length : Int) + 1) = ((done ++ [q]).length : Nat) by simp; unfold wrap64; omega]
      have e1 : (ys.length : Int) + (q.toNat : Int) = ((ys ++ List.replicate q.toNat c).length : Nat) := by simp
      rw [e1]
      have e2 : num + q + ((bars (!c) qs).length : Int) = num + ((bars c (q :: qs)).length : Int) := by rw [hlen]; omega
      rw [e2] at this
      have e3 : ys ++ List.replicate q.toNat c ++ bars (!c) qs = ys ++ bars c (q :: qs) := by simp [bars]
      rw [e3] at this
      exact this

/-- Of what was there just the block g may have turned. -/
structure Upd (w w' : World) (g : Nat) : Prop where
  os : w'.os = w.os
  tape : w'.tape = w.tape
  output : w'.output = w.output
  size : w.heap.size ≤ w'.heap.size
  block : ∀ k, k < w.heap.size → k ≠ g → w'.heap[k]? = w.heap[k]?
theorem Upd.refl (w : World) (g : Nat) : Upd w w g := ⟨rfl, rfl, rfl, Nat.le_refl _, fun _ _ _ => rfl⟩
theorem Upd.trans {a b c : World} {g : Nat} (h : Upd a b g) (k : Upd b c g) : Upd a c g := ⟨k.os.trans h.os, k.tape.trans h.tape, k.output.trans h.output, Nat.le_trans h.size k.size, fun i hi hn => (k.block i (Nat.lt_of_lt_of_le hi h.size) hn).trans (h.block i hi hn)⟩
theorem Upd.of_below {w w' : World} (g : Nat) (h : Below w.heap.size w w') : Upd w w' g := ⟨h.os, h.tape, h.output, h.size, fun k hk _ => h.block k hk⟩
theorem Upd.of_turn {w w' : World} {g : Nat} (h : Turn w w' g) : Upd w w' g := ⟨h.os, h.tape, h.output, Nat.le_of_eq h.size.symm, fun k _ hn => h.block k hn⟩
theorem Upd.blk {w w' : World} {g k : Nat} {t : TypeId} {cs : Array Value} (h : Upd w w' g) (hb : Blk w k t cs) (hne : k ≠ g) : Blk w' k t cs := (h.block k hb.lt hne).trans hb
theorem Upd.below {w w' : World} {g B : Nat} (h : Upd w w' g) (hB : B ≤ g) (hs : B ≤ w.heap.size) : Below B w w' := ⟨h.os, h.tape, h.output, h.size, fun k hk => h.block k (by omega) (by omega)⟩

theorem R_of_blk {w : World} {g N : Nat} {xs : List Bool} (h : Blk w g 4 (bools xs).toArray) (hN : xs.length = N) (hm : N ≤ 1000000000) {base : Nat} (hb : base ≤ g) : Kd.R Kd.bool 4 w base (fun k => k = g) (.slice (some ⟨g, 0, none⟩) N N) xs := by
  refine Kd.R_of_own (enc := Value.bool) (h1 := fun _ => rfl) ⟨by simp [encs], .inr ⟨g, N, _, by rw [hN], hb, h, by omega, by unfold maxLen; omega, by simp [bools, hN], ?_⟩⟩ (fun k hk => ?_)
  · rw [Nat.mul_one, List.toList_toArray]
    exact List.take_of_length_le (by simp [bools])
  · simpa [Value.ownBlock] using hk.symm
theorem blk_of_R {w : World} {g N base : Nat} {xs : List Bool} {ok : Nat → Prop} (h : Kd.R Kd.bool 4 w base ok (.slice (some ⟨g, 0, none⟩) N N) xs) (h0 : 0 < N) : Blk w g 4 (bools xs).toArray := by
  obtain ⟨h1, h2 | ⟨g', cap, cur, he, hb, hh, h3, h4, h5, h6⟩⟩ := Kd.own_of_R (enc := Value.bool) (h1 := fun _ => rfl) h
  · simp at h2
  · injection he with e1 e2 e3
    injection e1 with e1
    injection e1 with e1
    subst e1 e3
    have e : cur = (bools xs).toArray := by
      apply Array.toList_inj.1
      rw [← e2, Nat.mul_one, List.take_of_length_le (by rw [Array.length_toList, h5]; omega)] at h6
      rw [h6]
      rfl
    rw [← e]
    exact hh

/-- The cells of a row of numbers are none of a row of bools. -/
theorem C_kept {w : World} {gt : Nat} {xs : List Bool} {k : IntKind} {A : Option Addr} {ps : List Int} (hb : Blk w gt 4 (bools xs).toArray) (hC : Kd.C (Kd.int k) w A ps.length ps) (W : World) (hk : Kept w W (fun i => i = gt)) : Kd.C (Kd.int k) W A ps.length ps := by
  have hr := Kd.reads_of_C (enc := Value.int k) (d := (0 : Int)) (h1 := fun _ => rfl) hC
  refine Kd.C_of_reads (enc := Value.int k) (d := (0 : Int)) (h1 := fun _ => rfl) ⟨rfl, hr.2.1, fun hp => ?_⟩
  obtain ⟨ad, rfl, hc⟩ := hr.2.2 hp
  refine ⟨ad, rfl, fun j hj => ?_⟩
  have h1 := hc j hj
  have hlt := World.block_lt_of_cell? w _ h1
  by_cases e : (ad.add j).block = gt
  · exfalso
    have hbk : w.heap[(ad.add j).block]? = some (.cells (bools xs).toArray 4 (0, 0)) := by rw [e]; exact hb
    unfold World.cell? at h1
    rw [hbk] at h1
    simp only at h1
    split at h1
    · cases h1
    · simp only [bools, List.getElem?_toArray, List.getElem?_map] at h1
      cases hx : xs[(ad.add j).off]? with
      | none => rw [hx] at h1; simp at h1
      | some v => rw [hx] at h1; simp at h1
  · exact (World.cell?_of_block (w := w) (hk.2 _ hlt e)).trans h1

/-- The world without its blocks from g on. -/
def cutAt (w : World) (g : Nat) : World := { w with heap := w.heap.extract 0 g }
theorem cut_size (w : World) (g : Nat) (h : g ≤ w.heap.size) : (cutAt w g).heap.size = g := by simp [cutAt]; omega
theorem cut_below (w : World) (g : Nat) (h : g ≤ w.heap.size) : Below (cutAt w g).heap.size (cutAt w g) w := by
  refine ⟨rfl, rfl, rfl, by rw [cut_size w g h]; exact h, fun k hk => ?_⟩
  rw [cut_size w g h] at hk
  show _ = (w.heap.extract 0 g)[k]?
  rw [Array.getElem?_extract]
  simp [hk]
  intro h1
  omega

theorem appendPat (w : World) (gt N : Nat) (xs ys : List Bool) (A : Option Addr) (c : Nat) (ps : List Int) (col : Bool) (hb : Blk w gt 4 (bools (put xs ys)).toArray) (hN : xs.length = N) (h0 : 0 < N) (hm : N ≤ 1000000000)
    (m : Nat) (hpm : ps.length = m) (hC : Kd.C (Kd.int .i64) w A m ps) (hc : m ≤ c) (hp : ∀ p ∈ ps, 0 ≤ p ∧ p ≤ 1000000) (hpl : m ≤ 1000000) (hl : ys.length + (bars col ps).length ≤ N) :
    Calls Tryz.prog 145 #[.slice (some ⟨gt, 0, none⟩) N N, .int .i64 ys.length, .slice A m c, .bool col] w fun e w' => e = .returned (.int .i64 ((bars col ps).length : Nat)) ∧ Blk w' gt 4 (bools (put xs (ys ++ bars col ps))).toArray ∧ Upd w w' gt := by
  subst hpm
  obtain ⟨k, hk⟩ := (app_out xs ps (by omega) hp ps [] ys col 0 rfl (by omega) hpl (by omega) (by omega)).rounds
  have hpn := put_length xs ys (by omega)
  have hbl : gt ≤ w.heap.size := Nat.le_of_lt hb.lt
  have hr := R_of_blk hb (by rw [hpn, hN]) hm (base := (cutAt w gt).heap.size) (by rw [cut_size w gt hbl]; omega)
  refine (F.oned_onedWriter_appendPattern.calls k (fun i => i = gt) _ _ _ A c ps col _ _ (cutAt w gt) w (cut_below w gt hbl) hr (C_kept hb hC) hc (by
    unfold F.oned_onedWriter_appendPattern.f
    exact hk)).mono ?_
  rintro e w' ⟨rfl, h1, h2, h3⟩
  refine ⟨by simp, blk_of_R h1 h0, ⟨h2.os, h2.tape, h2.output, h3.1, fun i hi hn => h3.2 i hi hn⟩⟩
/-- The same, the place and the answer as they are spelled. -/
theorem appendPat' (w : World) (gt N : Nat) (xs ys : List Bool) (A : Option Addr) (c : Nat) (ps : List Int) (col : Bool) (pos r : Int) (hpos : (ys.length : Int) = pos) (hr : ((bars col ps).length : Int) = r) (hb : Blk w gt 4 (bools (put xs ys)).toArray) (hN : xs.length = N) (h0 : 0 < N) (hm : N ≤ 1000000000)
    (m : Nat) (hpm : ps.length = m) (hC : Kd.C (Kd.int .i64) w A m ps) (hc : m ≤ c) (hp : ∀ p ∈ ps, 0 ≤ p ∧ p ≤ 1000) (hpl : m ≤ 1000000) (hl : pos + r ≤ N) :
    Calls Tryz.prog 145 #[.slice (some ⟨gt, 0, none⟩) N N, .int .i64 pos, .slice A m c, .bool col] w fun e w' => e = .returned (.int .i64 r) ∧ Blk w' gt 4 (bools (put xs (ys ++ bars col ps))).toArray ∧ Upd w w' gt := by
  subst hpos hr
  exact appendPat w gt N xs ys A c ps col hb hN h0 hm m hpm hC hc (fun p h => by have := hp p h; omega) hpl (by omega)

/-- A byte is a digit. -/
def isDig (b : UInt8) : Prop := 48 ≤ b.toNat ∧ b.toNat ≤ 57
theorem iter_below (w : World) (s : ByteArray) (p : Nat) : Below w.heap.size w (w.iter s p) := below_alloc (Below.refl _ _) _

def NumPost (n m : Nat) (v : Value) : Prop := if n = m then v = .nilIface else ∃ x, v = .iface 141 x
set_option maxHeartbeats 1000000 in
theorem numeric (w : World) (s : ByteArray) (hs : s.size ≤ 1000000000) (n : Nat) (hn : n ≤ s.size) (hd : ∀ i (hi : i < n), isDig (s[i]'(by omega))) (hx : ∀ h : n < s.size, ¬ isDig (s[n]'h)) :
    Calls Tryz.prog 162 #[.string s] w fun e w' => ∃ v, e = .returned v ∧ NumPost n s.size v ∧ Below w.heap.size w w' := by
  have HD := Aside0.mk hd
  have HX := Aside0.mk hx
  clear hd hx
  go_enter Tryz.func162, Tryz.ntmps162
  go_wp2
  go_loopw [4] (fun v wr => ∃ p : Nat, p ≤ n ∧ Aside0 (wr = w.iter s p)) (fun _ wr => s.size - wr.iterPos w.heap.size)
  case atStart => exact ⟨0, by omega, ⟨rfl⟩⟩
  case round =>
    obtain ⟨p, hp, hw⟩ := hrel
    obtain rfl := hw.out
    clear hw
    by_cases he : p < s.size
    · by_cases hlt : p < n
      · have hdp := HD.out p hlt
        obtain ⟨h1, h2⟩ := hdp
        have hnx := fun ty => run_next_ascii (P := Tryz.prog) w s p ty he (by omega)
        have b1 : decide (((s[p]'he).toNat : Int) < 48) = false := decide_eq_false (by omega)
        have b2 : decide ((57 : Int) < ((s[p]'he).toNat : Int)) = false := decide_eq_false (by omega)
        go_wp2
        go_roundw
        case rel => exact ⟨p + 1, by omega, ⟨rfl⟩⟩
        case measure => simp; omega
      · have hpn : p = n := by omega
        subst hpn
        have hxx := HX.out he
        have hnx := fun ty => run_next_any (P := Tryz.prog) w s p ty he
        have hdec : ((Utf8.decode s p).1 : Int) < 48 ∨ (57 : Int) < ((Utf8.decode s p).1 : Int) := by
          by_cases ha : (s[p]'he).toNat < 128
          · rw [decode_ascii s p he ha]
            unfold isDig at hxx
            show (((s[p]'he).toNat : Int) < 48) ∨ (57 : Int) < ((s[p]'he).toNat : Int)
            omega
          · have := (decode_high s p he (by omega)).1
            omega
        have hle := decode_le s p
        obtain ⟨d, hd⟩ : ∃ d, (Utf8.decode s p).1 = d := ⟨_, rfl⟩
        rw [hd] at hnx hdec hle
        clear hxx hd
        by_cases hlo : (d : Int) < 48
        · have b1 : decide ((d : Int) < 48) = true := decide_eq_true hlo
          clear hdec
          go_wp2_with (go_at_call 96; refine (newWExc _ _).mono ?_; rintro e w' ⟨x, rfl, hb⟩)
          go_ret
          refine ⟨_, rfl, by unfold NumPost; rw [if_neg (by omega)]; exact ⟨x, rfl⟩, ?_⟩
          exact (below_alloc (iter_below w s _) _).trans (hb.mono (by simp [World.iter]; omega))
        · have b1 : decide ((d : Int) < 48) = false := decide_eq_false hlo
          have b2 : decide ((57 : Int) < (d : Int)) = true := decide_eq_true (by omega)
          clear hdec
          go_wp2_with (go_at_call 96; refine (newWExc _ _).mono ?_; rintro e w' ⟨x, rfl, hb⟩)
          go_ret
          refine ⟨_, rfl, by unfold NumPost; rw [if_neg (by omega)]; exact ⟨x, rfl⟩, ?_⟩
          exact (below_alloc (iter_below w s _) _).trans (hb.mono (by simp [World.iter]; omega))
    · have hpn : p = n := by omega
      have hps : n = s.size := by omega
      subst hpn
      have hnx := fun ty => run_next_end (P := Tryz.prog) w s p ty he
      have HPS := Aside0.mk hps
      clear he hps
      go_wp2
      go_ret
      exact ⟨_, rfl, by unfold NumPost; rw [if_pos HPS.out]; rfl, iter_below w s p⟩

/-! ### The check digit -/
theorem newFExc (w : World) (v : Value) :
    Calls Tryz.prog 166 #[v] w fun e w' => e = .returned (.iface 198 (.agg #[.string ⟨#[70, 111, 114, 109, 97, 116, 69, 120, 99, 101, 112, 116, 105, 111, 110]⟩, .nilIface])) ∧ Below w.heap.size w w' := by
  go_enter Tryz.func166, Tryz.ntmps166
  go_wp2_with (go_at_call 100; refine (newExc _ _ _).mono ?_; rintro e w' ⟨rfl, hb⟩)
  go_ret
  exact ⟨rfl, hb⟩
theorem methFE (W : World) : Sem.run Tryz.prog (method 315 198 (.agg #[.string ⟨#[70, 111, 114, 109, 97, 116, 69, 120, 99, 101, 112, 116, 105, 111, 110]⟩, .nilIface]) "Error") W = .ok (184, .agg #[.string ⟨#[70, 111, 114, 109, 97, 116, 69, 120, 99, 101, 112, 116, 105, 111, 110]⟩, .nilIface]) W := by kernel_rfl
theorem errFE (w : World) (s : ByteArray) : Calls Tryz.prog 184 #[.agg #[.string s, .nilIface]] w fun e w' => e = .returned (.string s) ∧ Below w.heap.size w w' := by
  go_enter Tryz.func184, Tryz.ntmps184
  go_wp2
  go_ret
  exact ⟨rfl, below_alloc (Below.refl _ _) _⟩

/-- The digits of a text, as the code takes them: each byte less 48. -/
def dgt (s : ByteArray) (i : Nat) : Int := (bt s i - 48) % 256
/-- The sum of j digits from place p on to the left, each second one. -/
def legs (s : ByteArray) (p : Int) : Nat → Int
  | 0 => 0
  | j + 1 => legs s p j + dgt s (p - 2 * j).toNat
theorem legs_le (s : ByteArray) (p : Int) (j : Nat) (h : ∀ t < j, dgt s (p - 2 * t).toNat ≤ 9) : 0 ≤ legs s p j ∧ legs s p j ≤ 9 * j := by
  induction j with
  | zero => simp [legs]
  | succ j ih =>
    have h1 := ih (fun t ht => h t (by omega))
    have h2 := h j (by omega)
    have h3 : 0 ≤ dgt s (p - 2 * j).toNat := by unfold dgt; omega
    simp only [legs]
    omega
/-- The check digit of the first n bytes. -/
def chk (s : ByteArray) (n : Nat) : Int := (1000 - (3 * legs s (n - 1) ((n + 1) / 2) + legs s (n - 2) (n / 2))) % 10
def AllDig (s : ByteArray) (n : Nat) : Prop := ∀ i, i < n → dgt s i ≤ 9
def CkPost (s : ByteArray) (n : Nat) (e : Ending) : Prop :=
  (AllDig s n ∧ e = .returned (.tuple #[.int .i64 (chk s n), .nilIface])) ∨ (¬ AllDig s n ∧ e = .returned (.tuple #[.int .i64 0, .iface 198 (.agg #[.string ⟨#[70, 111, 114, 109, 97, 116, 69, 120, 99, 101, 112, 116, 105, 111, 110]⟩, .nilIface])]))

theorem bt_get (s : ByteArray) (i : Nat) (h : i < s.size) : ((s[i]'h).toNat : Int) = bt s (i : Int) := by
  rw [← bt_at s (i : Int) (by simpa using h)]
  rfl
set_option maxHeartbeats 2000000 in
set_option maxRecDepth 100000 in
theorem ck160 (w : World) (s : ByteArray) (n : Nat) (hn : s.size = n) (hm : n ≤ 40) :
    Calls Tryz.prog 160 #[.string s] w fun e w' => CkPost s n e ∧ Below w.heap.size w w' := by
  have hsI : (s.size : Int) = (n : Int) := by omega
  have HN := Aside0.mk hn
  clear hn
  go_enter Tryz.func160, Tryz.ntmps160
  go_wp2_with fail
  go_loopw [5, 6] (fun sv v wr => ∃ (j : Nat) (i sm : Int), 2 * j ≤ n + 1 ∧ sv = .int .i64 sm ∧ v = .int .i64 i ∧ -2 ≤ i ∧ i < n ∧ 0 ≤ sm ∧ sm ≤ 1000 ∧ Aside0 (i = n - 1 - 2 * j) ∧ Aside0 (sm = legs s (n - 1) j) ∧ Aside0 (∀ t < j, dgt s (((n : Int) - 1) - 2 * t).toNat ≤ 9) ∧ Aside0 (Below w.heap.size w wr)) (fun _ v _ => (intOf v + 2).toNat)
  case atStart => exact ⟨0, n - 1, 0, by omega, rfl, rfl, by omega, by omega, by omega, by omega, ⟨by omega⟩, ⟨rfl⟩, ⟨by omega⟩, ⟨Below.refl _ _⟩⟩
  case round =>
    obtain ⟨j, i, sm, hj, rfl, rfl, hi0, hi1, hs0, hs1, HI, HSM, HD, HB⟩ := hrel
    by_cases hge : 0 ≤ i
    · have d1 : decide (i ≥ 0) = true := decide_eq_true hge
      have hit : i.toNat < s.size := by have := HN.out; omega
      obtain ⟨b, hb⟩ : ∃ b : Int, ((s[i.toNat]'hit).toNat : Int) = b := ⟨_, rfl⟩
      have hb0 : 0 ≤ b ∧ b < 256 := by have := (s[i.toNat]'hit).toNat_lt; omega
      have hbd : dgt s i.toNat = (b - 48) % 256 := by unfold dgt; rw [← bt_get s i.toNat hit, hb]
      have HBD := Aside0.mk hbd
      clear hbd
      obtain ⟨hb0, hb1⟩ := hb0
      have e0 : decide ((b - 48) % 256 < 0) = false := decide_eq_false (by omega)
      by_cases h9 : (9 : Int) < (b - 48) % 256
      · have e1 : decide ((9 : Int) < (b - 48) % 256) = true := decide_eq_true h9
        go_wp2_with (go_at_call 166; refine (newFExc _ _).mono ?_; rintro e w' ⟨rfl, hbx⟩)
        go_ret2
        refine ⟨Or.inr ⟨fun hall => ?_, rfl⟩, HB.out.trans ((below_alloc (Below.refl _ _) _).trans (hbx.mono (by simp)) |>.mono HB.out.size)⟩
        have := hall i.toNat (by omega)
        rw [HBD.out] at this
        omega
      · have e1 : decide ((9 : Int) < (b - 48) % 256) = false := decide_eq_false h9
        have hl := legs_le s ((n : Int) - 1) j HD.out
        have hle : sm ≤ 9 * j := by rw [HSM.out]; exact hl.2
        have h48 : (b - 48) % 256 = b - 48 := by omega
        have H48 := Aside0.mk h48
        clear hl h48
        go_wp2
        go_roundw
        case rel => exact ⟨j + 1, i - 2, sm + (b - 48), by have := HI.out; omega, rfl, rfl, by omega, by omega, by omega, by omega, ⟨by have := HI.out; omega⟩, ⟨by rw [legs, ← HSM.out, ← HI.out, HBD.out, H48.out]⟩, ⟨by
          intro t ht
          by_cases h : t = j
          · subst h; rw [← HI.out, HBD.out]; omega
          · exact HD.out t (by omega)⟩, HB⟩
        case measure => simp [intOf]; omega
    · have d1 : decide (i ≥ 0) = false := decide_eq_false hge
      have hjj : j = (n + 1) / 2 := by have := HI.out; omega
      have hle : sm ≤ 9 * j := by rw [HSM.out]; exact (legs_le s ((n : Int) - 1) j HD.out).2
      have HSM1 := Aside0.mk (show sm = legs s ((n : Int) - 1) ((n + 1) / 2) by rw [← hjj]; exact HSM.out)
      have HD1 := Aside0.mk (show ∀ t < (n + 1) / 2, dgt s (((n : Int) - 1) - 2 * t).toNat ≤ 9 by rw [← hjj]; exact HD.out)
      have hsm1 : sm ≤ 200 := by omega
      clear hjj hle HI HSM HD hi0 hi1 hj hs1
      go_wp2
      clear d1 hge
      go_loopw [5, 8] (fun sv v wr => ∃ (j : Nat) (i s2 : Int), 2 * j ≤ n ∧ sv = .int .i64 s2 ∧ v = .int .i64 i ∧ -2 ≤ i ∧ i < n ∧ 0 ≤ s2 ∧ s2 ≤ 1000 ∧ Aside0 (i = n - 2 - 2 * j) ∧ Aside0 (s2 = 3 * sm + legs s (n - 2) j) ∧ Aside0 (∀ t < j, dgt s (((n : Int) - 2) - 2 * t).toNat ≤ 9) ∧ Aside0 (Below w.heap.size w wr)) (fun _ v _ => (intOf v + 2).toNat)
      case atStart => exact ⟨0, n - 2, sm * 3, by omega, rfl, rfl, by omega, by omega, by omega, by omega, ⟨by omega⟩, ⟨by simp [legs]; omega⟩, ⟨by omega⟩, HB⟩
      case round =>
        clear HB
        obtain ⟨j, i, s2, hj, rfl, rfl, hi0, hi1, hs20, hs21, HI, HSM, HD, HB⟩ := hrel
        by_cases hge : 0 ≤ i
        · have d1 : decide (i ≥ 0) = true := decide_eq_true hge
          have hit : i.toNat < s.size := by have := HN.out; omega
          obtain ⟨b, hb⟩ : ∃ b : Int, ((s[i.toNat]'hit).toNat : Int) = b := ⟨_, rfl⟩
          have hb0 : 0 ≤ b ∧ b < 256 := by have := (s[i.toNat]'hit).toNat_lt; omega
          have hbd : dgt s i.toNat = (b - 48) % 256 := by unfold dgt; rw [← bt_get s i.toNat hit, hb]
          have HBD := Aside0.mk hbd
          clear hbd
          obtain ⟨hb0, hb1⟩ := hb0
          have e0 : decide ((b - 48) % 256 < 0) = false := decide_eq_false (by omega)
          by_cases h9 : (9 : Int) < (b - 48) % 256
          · have e1 : decide ((9 : Int) < (b - 48) % 256) = true := decide_eq_true h9
            go_wp2_with (go_at_call 166; refine (newFExc _ _).mono ?_; rintro e w' ⟨rfl, hbx⟩)
            go_ret2
            refine ⟨Or.inr ⟨fun hall => ?_, rfl⟩, HB.out.trans ((below_alloc (Below.refl _ _) _).trans (hbx.mono (by simp)) |>.mono HB.out.size)⟩
            have := hall i.toNat (by omega)
            rw [HBD.out] at this
            omega
          · have e1 : decide ((9 : Int) < (b - 48) % 256) = false := decide_eq_false h9
            have hl := legs_le s ((n : Int) - 2) j HD.out
            have hle : s2 ≤ 3 * sm + 9 * j := by have := hl.2; rw [HSM.out]; omega
            have h48 : (b - 48) % 256 = b - 48 := by omega
            have H48 := Aside0.mk h48
            clear hl h48
            go_wp2
            go_roundw
            case rel => exact ⟨j + 1, i - 2, s2 + (b - 48), by have := HI.out; omega, rfl, rfl, by omega, by omega, by omega, by omega, ⟨by have := HI.out; omega⟩, ⟨by rw [legs, ← HI.out, HBD.out, H48.out]; have := HSM.out; omega⟩, ⟨by
              intro t ht
              by_cases h : t = j
              · subst h; rw [← HI.out, HBD.out]; omega
              · exact HD.out t (by omega)⟩, HB⟩
            case measure => simp [intOf]; omega
        · have d1 : decide (i ≥ 0) = false := decide_eq_false hge
          have hjj : j = n / 2 := by have := HI.out; omega
          have HSM2 := Aside0.mk (show s2 = 3 * sm + legs s ((n : Int) - 2) (n / 2) by rw [← hjj]; exact HSM.out)
          have HD2 := Aside0.mk (show ∀ t < n / 2, dgt s (((n : Int) - 2) - 2 * t).toNat ≤ 9 by rw [← hjj]; exact HD.out)
          clear hjj HI HSM HD
          go_wp2
          go_ret2
          refine ⟨Or.inl ⟨fun i hi => ?_, ?_⟩, HB.out⟩
          · rcases Nat.mod_two_eq_zero_or_one (n - 1 - i) with h | h
            · have := HD1.out ((n - 1 - i) / 2) (by omega)
              rwa [show ((n : Int) - 1 - 2 * ((n - 1 - i) / 2 : Nat)).toNat = i by omega] at this
            · have := HD2.out ((n - 2 - i) / 2) (by omega)
              rwa [show ((n : Int) - 2 - 2 * ((n - 2 - i) / 2 : Nat)).toNat = i by omega] at this
          · have : chk s n = (1000 - s2) % 10 := by unfold chk; rw [← HSM1.out, ← HSM2.out]
            rw [this]
            rfl

/-- The reference's sum over the last i digits. -/
def odSum (s : ByteArray) (n : Nat) : Nat → Int
  | 0 => 0
  | i + 1 => odSum s n i + (if i % 2 = 0 then 3 * dgt s (n - 1 - i) else dgt s (n - 1 - i))
theorem odSum_legs (s : ByteArray) (n : Nat) : ∀ j, (2 * j ≤ n → odSum s n (2 * j) = 3 * legs s (n - 1) j + legs s (n - 2) j) ∧ (2 * j + 1 ≤ n → odSum s n (2 * j + 1) = 3 * legs s (n - 1) (j + 1) + legs s (n - 2) j) := by
  intro j
  induction j with
  | zero =>
    refine ⟨fun _ => rfl, fun h => ?_⟩
    simp only [odSum, legs]
    rw [show ((n : Int) - 1 - 2 * ((0 : Nat) : Int)).toNat = n - 1 - 0 by omega]
    simp
  | succ j ih =>
    have h1 : 2 * (j + 1) ≤ n → odSum s n (2 * (j + 1)) = 3 * legs s (n - 1) (j + 1) + legs s (n - 2) (j + 1) := by
      intro h
      have := ih.2 (by omega)
      rw [show 2 * (j + 1) = (2 * j + 1) + 1 by omega, odSum, this, if_neg (by omega)]
      conv => rhs; rw [legs.eq_2 s ((n : Int) - 2) j]
      rw [show ((n : Int) - 2 - 2 * (j : Int)).toNat = n - 1 - (2 * j + 1) by omega]
      omega
    refine ⟨h1, fun h => ?_⟩
    rw [odSum, h1 (by omega), if_pos (by omega)]
    conv => rhs; rw [legs.eq_2 s ((n : Int) - 1) (j + 1)]
    rw [show ((n : Int) - 1 - 2 * ((j + 1 : Nat) : Int)).toNat = n - 1 - 2 * (j + 1) by omega]
    omega
theorem odSum_all (s : ByteArray) (n : Nat) : odSum s n n = 3 * legs s (n - 1) ((n + 1) / 2) + legs s (n - 2) (n / 2) := by
  rcases Nat.mod_two_eq_zero_or_one n with h | h
  · have := (odSum_legs s n (n / 2)).1 (by omega)
    rw [show 2 * (n / 2) = n by omega] at this
    rw [this, show (n + 1) / 2 = n / 2 by omega]
  · have := (odSum_legs s n (n / 2)).2 (by omega)
    rw [show 2 * (n / 2) + 1 = n by omega] at this
    rw [this, show (n + 1) / 2 = n / 2 + 1 by omega]
theorem odSum_le (s : ByteArray) (n : Nat) (hd : AllDig s n) (i : Nat) (hi : i ≤ n) : 0 ≤ odSum s n i ∧ odSum s n i ≤ 27 * i := by
  induction i with
  | zero => simp [odSum]
  | succ i ih =>
    have h1 := ih (by omega)
    have h2 := hd (n - 1 - i) (by omega)
    have h3 : 0 ≤ dgt s (n - 1 - i) := by unfold dgt; omega
    simp only [odSum]
    split <;> omega
theorem odSum_chk (s : ByteArray) (n : Nat) (hn : n ≤ 30) (hd : AllDig s n) : (10 - odSum s n n % 10) % 10 = chk s n := by
  have := odSum_le s n hd n (Nat.le_refl _)
  unfold chk
  rw [← odSum_all]
  omega
theorem chk_range (s : ByteArray) (n : Nat) : 0 ≤ chk s n ∧ chk s n ≤ 9 := by unfold chk; omega
theorem conv_rune (b : Int) (h0 : 0 ≤ b) (h : b < 128) (w : World) : (Go.convert 21 9 (.int .i32 b)).run Tryz.prog w = .ok (.string ⟨#[UInt8.ofNat b.toNat]⟩) w := by
  rw [run_convert_int_string w 21 9 .i32 _ (by kernel_rfl) Tryz.underlying9]
  have hv : Utf8.valid b = true := by unfold Utf8.valid; simp; omega
  have : Utf8.encode b = ⟨#[UInt8.ofNat b.toNat]⟩ := by
    unfold Utf8.encode
    rw [if_pos hv]
    simp only
    rw [if_pos (by omega)]
  rw [this]

set_option maxHeartbeats 2000000 in
set_option maxRecDepth 100000 in
theorem ck64 (w : World) (s : ByteArray) (n : Nat) (hn : s.size = n) (hm : n ≤ 30) (hd : AllDig s n) :
    Calls Tryz.prog 64 #[.string s] w fun e w' => e = .returned (.string ⟨#[UInt8.ofNat (48 + chk s n).toNat]⟩) ∧ Below w.heap.size w w' := by
  have hsI : (s.size : Int) = (n : Int) := by omega
  have HN := Aside0.mk hn
  have HD := Aside0.mk hd
  clear hn hd
  go_enter Tryz.func64, Tryz.ntmps64
  go_wp2_with fail
  go_loopw [3, 8] (fun sv v wr => ∃ (i : Nat) (sm : Int), i ≤ n ∧ sv = .int .i64 sm ∧ v = .int .i64 i ∧ 0 ≤ sm ∧ sm ≤ 27 * i ∧ Aside0 (sm = odSum s n i) ∧ Aside0 (Below w.heap.size w wr)) (fun _ v _ => n - (intOf v).toNat)
  case atStart => exact ⟨0, 0, by omega, rfl, rfl, by omega, by omega, ⟨rfl⟩, ⟨Below.refl _ _⟩⟩
  case round =>
    obtain ⟨i, sm, hi, rfl, rfl, hs0, hs1, HS, HB⟩ := hrel
    by_cases hlt : i < n
    · have hit : n - 1 - i < s.size := by have := HN.out; omega
      obtain ⟨b, hb⟩ : ∃ b : Int, ((s[n - 1 - i]'hit).toNat : Int) = b := ⟨_, rfl⟩
      have hbd : dgt s (n - 1 - i) = (b - 48) % 256 := by
        unfold dgt
        rw [← bt_get s (n - 1 - i) hit, ← hb]
      have hd9 := HD.out (n - 1 - i) (by omega)
      have hb0 : 0 ≤ b ∧ b < 256 := by have := (s[n - 1 - i]'hit).toNat_lt; omega
      have hb48 : 48 ≤ b ∧ b ≤ 57 := by rw [hbd] at hd9; omega
      have hbd' : dgt s (n - 1 - i) = b - 48 := by rw [hbd]; omega
      have HBD := Aside0.mk hbd'
      obtain ⟨hb1, hb2⟩ := hb48
      clear hbd hbd' hd9 hb0
      by_cases h2 : (i : Int) % 2 = 0
      · have e2 : (((i : Int) % 2) == 0) = true := beq_iff_eq.2 h2
        have H2 := Aside0.mk h2
        clear h2
        go_wp2
        go_roundw
        case rel => exact ⟨i + 1, sm + (b - 48) * 3, by omega, rfl, by go_num, by omega, by omega, ⟨by rw [odSum, if_pos (by have := H2.out; omega), HBD.out, ← HS.out]; omega⟩, HB⟩
        case measure => simp [intOf]; omega
      · have e2 : (((i : Int) % 2) == 0) = false := beq_eq_false_iff_ne.2 h2
        have H2 := Aside0.mk h2
        clear h2
        go_wp2
        go_roundw
        case rel => exact ⟨i + 1, sm + (b - 48), by omega, rfl, by go_num, by omega, by omega, ⟨by rw [odSum, if_neg (by have := H2.out; omega), HBD.out, ← HS.out]⟩, HB⟩
        case measure => simp [intOf]; omega
    · obtain rfl : i = n := by omega
      have hc := odSum_chk s i hm HD.out
      rw [← HS.out] at hc
      have hr := chk_range s i
      obtain ⟨C, hC⟩ : ∃ C, chk s i = C := ⟨_, rfl⟩
      rw [hC] at hc hr
      obtain ⟨hr0, hr1⟩ := hr
      have hcr := fun W => conv_rune (48 + C) (by omega) (by omega) W
      have HC := Aside0.mk hC
      clear hC
      go_wp2
      go_ret
      exact ⟨by rw [HC.out]; rfl, HB.out⟩

theorem dgt_ok (s : ByteArray) (i : Nat) : dgt s i ≤ 9 ↔ ¬ (bt s i < 48 ∨ 57 < bt s i) := by
  have := bt_range s i
  unfold dgt
  omega
theorem odDigits_run (s : ByteArray) (m : Nat) (hm : m ≤ 100) (hs : s.size = m) (r : Bool) (hr : r = true ↔ AllDig s m) : ∀ (d i : Nat), i + d = m → AllDig s i → Ev (fun k => F.spec_ODDigits.l0 k s m i) r := by
  intro d
  induction d with
  | zero =>
    intro i hi ha
    obtain rfl : i = m := by omega
    rw [hr.2 ha]
    refine Ev.step (f := fun _ => some true) (fun k => ?_) (Ev.now _)
    rw [F.spec_ODDigits.l0, if_neg (by omega)]
  | succ d ih =>
    intro i hi ha
    by_cases h : dgt s i ≤ 9
    · refine Ev.step (fun k => ?_) (ih (i + 1) (by omega) (fun j hj => by
        by_cases e : j = i
        · subst e; exact h
        · exact ha j (by omega)))
      have := (dgt_ok s i).1 h
      rw [F.spec_ODDigits.l0, if_pos (by omega), if_pos (by omega), if_pos (by omega), if_neg (by omega), if_neg (by omega), show wrap64 ((i : Int) + 1) = ((i + 1 : Nat) : Int) by unfold wrap64; omega]
    · have : r = false := by
        cases r with
        | false => rfl
        | true => exact absurd (hr.1 rfl i (by omega)) h
      rw [this]
      have h2 : bt s i < 48 ∨ 57 < bt s i := by
        rcases Classical.em (bt s i < 48 ∨ 57 < bt s i) with h3 | h3
        · exact h3
        · exact absurd ((dgt_ok s i).2 h3) h
      refine Ev.step (f := fun _ => some false) (fun k => ?_) (Ev.now _)
      rw [F.spec_ODDigits.l0, if_pos (by omega), if_pos (by omega), if_pos (by omega)]
      by_cases h4 : bt s i < 48
      · rw [if_pos h4]
      · rw [if_neg h4, if_pos (by omega)]
theorem digs63 (w : World) (s : ByteArray) (m : Nat) (mi : Int) (hmi : (m : Int) = mi) (hm : m ≤ 100) (r : Bool) (hr : r = true ↔ (s.size = m ∧ AllDig s m)) :
    Calls Tryz.prog 63 #[.string s, .int .i64 mi] w fun e w' => e = .returned (.bool r) ∧ Drawn0 w w' := by
  subst hmi
  by_cases hs : s.size = m
  · obtain ⟨k, hk⟩ := (odDigits_run s m hm hs r (by rw [hr]; simp [hs]) m 0 (by omega) (by intro j hj; omega)).rounds
    exact F.spec_ODDigits.calls k s m r w (by unfold F.spec_ODDigits.f; rw [if_pos (by omega)]; exact hk)
  · have : r = false := by
      cases r with
      | false => rfl
      | true => exact absurd (hr.1 rfl).1 hs
    subst this
    exact F.spec_ODDigits.calls 0 s m false w (by unfold F.spec_ODDigits.f; rw [if_neg (by omega)])

theorem bt_extract (s : ByteArray) (m i : Nat) (hm : m ≤ s.size) (hi : i < m) : bt (s.extract 0 m) i = bt s i := by
  have h1 : i < (s.extract 0 m).size := by rw [ByteArray.size_extract]; omega
  rw [← bt_get _ _ h1, ← bt_get s i (by omega)]
  congr 2
  simp [ByteArray.getElem_extract]
theorem dgt_extract (s : ByteArray) (m i : Nat) (hm : m ≤ s.size) (hi : i < m) : dgt (s.extract 0 m) i = dgt s i := by
  unfold dgt; rw [bt_extract s m i hm hi]
theorem legs_extract (s : ByteArray) (m : Nat) (hm : m ≤ s.size) (p : Int) (hp : p < m) (j : Nat) (hj : 2 * ((j : Int) - 1) ≤ p) : legs (s.extract 0 m) p j = legs s p j := by
  induction j with
  | zero => rfl
  | succ j ih =>
    simp only [legs]
    rw [ih (by omega), dgt_extract s m _ hm (by omega)]
theorem chk_extract (s : ByteArray) (m : Nat) (hm : m ≤ s.size) : chk (s.extract 0 m) m = chk s m := by
  unfold chk
  rw [legs_extract s m hm _ (by omega) _ (by omega), legs_extract s m hm _ (by omega) _ (by omega)]
theorem allDig_extract (s : ByteArray) (m : Nat) (hm : m ≤ s.size) : AllDig (s.extract 0 m) m ↔ AllDig s m := by
  unfold AllDig
  constructor
  · intro h i hi; rw [← dgt_extract s m i hm hi]; exact h i hi
  · intro h i hi; rw [dgt_extract s m i hm hi]; exact h i hi
def ckText (s : ByteArray) (m : Nat) : ByteArray := s.extract 0 m ++ ⟨#[UInt8.ofNat (48 + chk s m).toNat]⟩

theorem eq_last (s : ByteArray) (m : Nat) (h : s.size = m + 1) (hd : dgt s m ≤ 9) : ((s.extract m s.size).toList == (⟨#[UInt8.ofNat (48 + chk s m).toNat]⟩ : ByteArray).toList) = decide (dgt s m = chk s m) := by
  have hms : m < s.size := by omega
  have hl : m < s.data.toList.length := by rw [data_length]; exact hms
  have hr := chk_range s m
  have hb := (dgt_ok s m).1 hd
  have hbr := bt_range s m
  have hg := bt_get s m hms
  have e1 : (s.extract m s.size).toList = [s[m]'hms] := by
    rw [ba_toList, Lib.extract_data, show s.size - m = 1 by omega, List.drop_eq_getElem_cons hl]
    rfl
  have e2 : (⟨#[UInt8.ofNat (48 + chk s m).toNat]⟩ : ByteArray).toList = [UInt8.ofNat (48 + chk s m).toNat] := by rw [ba_toList]
  rw [e1, e2, Bool.eq_iff_iff, beq_iff_eq, decide_eq_true_iff, List.cons.injEq, and_iff_left rfl, ← UInt8.toNat_inj]
  have e3 : (UInt8.ofNat (48 + chk s m).toNat).toNat = (48 + chk s m).toNat := by
    show (48 + chk s m).toNat % 256 = _
    omega
  rw [e3]
  unfold dgt
  omega
theorem utf_lt (c : Int) (h0 : 0 ≤ c) (h : c ≤ 9) : (UInt8.ofNat (48 + c).toNat).toNat = (48 + c).toNat := by
  show (48 + c).toNat % 256 = _
  omega

/-! ### A digit as a text -/
def alpha36 : ByteArray := ⟨#[48, 49, 50, 51, 52, 53, 54, 55, 56, 57, 97, 98, 99, 100, 101, 102, 103, 104, 105, 106, 107, 108, 109, 110, 111, 112, 113, 114, 115, 116, 117, 118, 119, 120, 121, 122]⟩
theorem alpha_digit (c : Nat) (h : c ≤ 9) : alpha36.extract c (c + 1) = ⟨#[UInt8.ofNat (48 + c)]⟩ := by
  have : ∀ c : Fin 10, (alpha36.extract c.val (c.val + 1)).data.toList = [UInt8.ofNat (48 + c.val)] := by decide +kernel
  have h1 := this ⟨c, by omega⟩
  have h2 : (alpha36.extract c (c + 1)).data = #[UInt8.ofNat (48 + c)] := Array.toList_inj.1 h1
  cases hx : alpha36.extract c (c + 1) with
  | mk d => rw [hx] at h2; exact congrArg ByteArray.mk h2
set_option maxHeartbeats 2000000 in
set_option maxRecDepth 100000 in
theorem small121 (w : World) (c : Nat) (h : c ≤ 9) (r : ByteArray) (hr : alpha36.extract c (c + 1) = r) : Calls Tryz.prog 121 #[.int .i64 c] w fun e w' => e = .returned (.string r) ∧ Below w.heap.size w w' := by
  have d1 : decide ((c : Int) < 10) = true := decide_eq_true (by omega)
  have hrun : ∀ W : World, (Instr.slice 9 (.string ⟨#[48, 49, 50, 51, 52, 53, 54, 55, 56, 57, 97, 98, 99, 100, 101, 102, 103, 104, 105, 106, 107, 108, 109, 110, 111, 112, 113, 114, 115, 116, 117, 118, 119, 120, 121, 122]⟩) (some (.int .i64 (c : Int))) (some (.int .i64 ((c : Int) + 1))) none).run Tryz.prog W = .ok (.string r) W := by
    intro W
    have h1 := run_slice_string (P := Tryz.prog) W 9 alpha36 .i64 .i64 (c : Int) ((c : Int) + 1) Tryz.underlying9 (by omega) (by omega) (by have : alpha36.size = 36 := rfl; omega)
    rw [show ((c : Int)).toNat = c by omega, show ((c : Int) + 1).toNat = c + 1 by omega, hr] at h1
    exact h1
  clear hr
  go_enter Tryz.func121, Tryz.ntmps121
  go_wp2
  go_ret
  exact ⟨rfl, Below.refl _ _⟩
set_option maxHeartbeats 2000000 in
set_option maxRecDepth 100000 in
theorem fmt120 (w : World) (c : Nat) (h : c ≤ 9) (r : ByteArray) (hr : alpha36.extract c (c + 1) = r) : Calls Tryz.prog 120 #[.int .i64 c, .int .i64 10] w fun e w' => e = .returned (.string r) ∧ Below w.heap.size w w' := by
  have d1 : decide ((0 : Int) ≤ (c : Int)) = true := decide_eq_true (by omega)
  have d2 : decide ((c : Int) < 100) = true := decide_eq_true (by omega)
  go_enter Tryz.func120, Tryz.ntmps120
  go_wp2_with fail
  try go_quiet (fail)
  try go_wp2_with fail
  refine (small121 _ c h r hr).mono ?_
  rintro e w1 ⟨rfl, hb⟩
  have HB := Aside0.mk hb
  clear hb
  go_wp2
  go_ret
  exact ⟨rfl, HB.out⟩
theorem itoa119 (w : World) (c : Nat) (h : c ≤ 9) (r : ByteArray) (hr : alpha36.extract c (c + 1) = r) : Calls Tryz.prog 119 #[.int .i64 c] w fun e w' => e = .returned (.string r) ∧ Below w.heap.size w w' := by
  go_enter Tryz.func119, Tryz.ntmps119
  go_wp2_with (go_at_call 120; refine (fmt120 _ c h r hr).mono ?_; rintro e w' ⟨rfl, hb⟩)
  go_ret
  exact ⟨rfl, hb⟩
theorem itoa116 (w : World) (c : Nat) (h : c ≤ 9) (r : ByteArray) (hr : alpha36.extract c (c + 1) = r) : Calls Tryz.prog 116 #[.int .i64 c] w fun e w' => e = .returned (.string r) ∧ Below w.heap.size w w' := by
  go_enter Tryz.func116, Tryz.ntmps116
  go_wp2_with (go_at_call 119; refine (itoa119 _ c h r hr).mono ?_; rintro e w' ⟨rfl, hb⟩)
  go_ret
  exact ⟨rfl, hb⟩
/-- The same for the check digit. -/
theorem itoaCk (w : World) (s : ByteArray) (n : Nat) : Calls Tryz.prog 116 #[.int .i64 (chk s n)] w fun e w' => e = .returned (.string ⟨#[UInt8.ofNat (48 + chk s n).toNat]⟩) ∧ Below w.heap.size w w' := by
  have hr := chk_range s n
  obtain ⟨c, hc⟩ : ∃ c : Nat, chk s n = c := ⟨(chk s n).toNat, by omega⟩
  rw [hc] at hr ⊢
  rw [show ((48 : Int) + (c : Int)).toNat = 48 + c by omega]
  exact itoa116 w c (by omega) _ (alpha_digit c (by omega))
set_option maxHeartbeats 2000000 in
set_option maxRecDepth 100000 in
theorem ck161 (w : World) (s : ByteArray) (m : Nat) (hs : s.size = m + 1) (hm : m ≤ 30) :
    Calls Tryz.prog 161 #[.string s] w fun e w' => ((AllDig s m ∧ e = .returned (.tuple #[.bool (decide (dgt s m = chk s m)), .nilIface])) ∨ (¬ AllDig s m ∧ e = .returned (.tuple #[.bool false, .iface 198 (.agg #[.string ⟨#[70, 111, 114, 109, 97, 116, 69, 120, 99, 101, 112, 116, 105, 111, 110]⟩, .nilIface])]))) ∧ Below w.heap.size w w' := by
  have hsI : (s.size : Int) = (m : Int) + 1 := by omega
  have hz : ((m : Int) + 1 == 0) = false := beq_eq_false_iff_ne.2 (by omega)
  have hit : m < s.size := by omega
  obtain ⟨b, hb⟩ : ∃ b : Int, ((s[m]'hit).toNat : Int) = b := ⟨_, rfl⟩
  have hbd : dgt s m = (b - 48) % 256 := by unfold dgt; rw [← bt_get s m hit, hb]
  have HBD := Aside0.mk hbd
  have hb0 : 0 ≤ b ∧ b < 256 := by have := (s[m]'hit).toNat_lt; omega
  obtain ⟨hb0, hb1⟩ := hb0
  have HS := Aside0.mk hs
  clear hs hbd
  go_enter Tryz.func161, Tryz.ntmps161
  go_wp2_with fail
  refine (ck160 _ (s.extract 0 m) m (by rw [ByteArray.size_extract]; have := HS.out; omega) (by omega)).mono ?_
  rintro e w1 ⟨hp, hb1⟩
  have HP := Aside0.mk hp
  have HB1 := Aside0.mk hb1
  clear hp hb1
  rcases HP.out with ⟨hp, rfl⟩ | ⟨hp, rfl⟩
  · have hpa := (allDig_extract s m (by have := HS.out; omega)).1 hp
    have hck := chk_extract s m (by have := HS.out; omega)
    obtain ⟨C, hC⟩ : ∃ C, chk s m = C := ⟨_, rfl⟩
    rw [hck, hC]
    have HC := Aside0.mk hC
    have HA := Aside0.mk hpa
    clear hp hpa hck hC HP
    go_wp2
    go_ret2
    have e : (C == (b - 48) % 256) = decide ((b - 48) % 256 = C) := by rw [Bool.eq_iff_iff, beq_iff_eq, decide_eq_true_iff]; exact eq_comm
    refine ⟨Or.inl ⟨HA.out, ?_⟩, HB1.out⟩
    rw [HBD.out, HC.out, ← e]
    rfl
  · have hpa : ¬ AllDig s m := fun h => hp ((allDig_extract s m (by have := HS.out; omega)).2 h)
    have HA := Aside0.mk hpa
    clear hp hpa HP
    go_wp2
    go_ret2
    exact ⟨Or.inr ⟨HA.out, rfl⟩, HB1.out⟩

/-! ### The patterns of EAN -/
def lpats : List (List Int) := [[3, 2, 1, 1], [2, 2, 2, 1], [2, 1, 2, 2], [1, 4, 1, 1], [1, 1, 3, 2], [1, 2, 3, 1], [1, 1, 1, 4], [1, 3, 1, 2], [1, 2, 1, 3], [3, 1, 1, 2]]
def lp (d : Int) : List Int := lpats.getD d.toNat []
theorem lp_facts (d : Int) (h0 : 0 ≤ d) (h : d ≤ 9) : (lp d).length = 4 ∧ (∀ p ∈ lp d, 0 ≤ p ∧ p ≤ 1000) ∧ ∀ c, (bars c (lp d)).length = 7 := by
  have : ∀ m : Fin 10, (lpats.getD m.val []).length = 4 ∧ (∀ p ∈ lpats.getD m.val [], 0 ≤ p ∧ p ≤ 1000) ∧ ∀ c, (bars c (lpats.getD m.val [])).length = 7 := by decide +kernel
  exact this ⟨d.toNat, by omega⟩
theorem pat163 (w : World) : Calls Tryz.prog 163 #[] w fun e w' => ∃ A c, e = .returned (.slice A 3 c) ∧ 3 ≤ c ∧ Kd.C (Kd.int .i64) w' A 3 [1, 1, 1] ∧ Below w.heap.size w w' := by
  refine (F.oned_UPCEANReader_START_END_PATTERN.calls [1, 1, 1] w rfl).mono ?_
  rintro e w' ⟨v, rfl, hn, hb⟩
  obtain ⟨A, c, rfl, hcc, hc⟩ := Kd.R_reads hn
  exact ⟨A, c, rfl, hcc, hc, hb⟩
theorem pat165 (w : World) : Calls Tryz.prog 165 #[] w fun e w' => ∃ A c, e = .returned (.slice A 5 c) ∧ 5 ≤ c ∧ Kd.C (Kd.int .i64) w' A 5 [1, 1, 1, 1, 1] ∧ Below w.heap.size w w' := by
  refine (F.oned_UPCEANReader_MIDDLE_PATTERN.calls [1, 1, 1, 1, 1] w rfl).mono ?_
  rintro e w' ⟨v, rfl, hn, hb⟩
  obtain ⟨A, c, rfl, hcc, hc⟩ := Kd.R_reads hn
  exact ⟨A, c, rfl, hcc, hc, hb⟩
theorem pats164 (w : World) (d : Int) (h0 : 0 ≤ d) (h9 : d ≤ 9) : Calls Tryz.prog 164 #[] w fun e w' => ∃ ad c A c2, e = .returned (.slice (some ad) 10 c) ∧ w'.cell? (ad.add d.toNat) = some (.slice A 4 c2) ∧ 4 ≤ c2 ∧ Kd.C (Kd.int .i64) w' A 4 (lp d) ∧ Below w.heap.size w w' := by
  refine (F.oned_UPCEANReader_L_PATTERNS.calls lpats w rfl).mono ?_
  rintro e w' ⟨v, rfl, hn, hb⟩
  obtain ⟨A, c, rfl, _, hc⟩ := Kd.N_reads hn
  obtain ⟨ad, A0, c0, rfl, h1, h2, h3⟩ := F.at_L5 hc d h0 (by show d < ((10 : Nat) : Int); omega)
  have hl : (F.rd_L5 lpats d).length = 4 := (lp_facts d h0 h9).1
  rw [hl] at h1 h2 h3
  exact ⟨ad, c, A0, c0, rfl, h1, h2, h3, hb⟩
/-- Digits by their patterns. -/
def digs_ (t : ByteArray) (p : Nat) (c : Bool) (n : Nat) : List Bool := (List.range n).flatMap fun k => bars c (lp (dgt t (p + k)))
theorem digs_length (t : ByteArray) (p : Nat) (c : Bool) (n : Nat) (h : ∀ k < n, dgt t (p + k) ≤ 9) : (digs_ t p c n).length = 7 * n := by
  induction n with
  | zero => rfl
  | succ n ih =>
    have h1 := ih (fun k hk => h k (by omega))
    unfold digs_ at h1 ⊢
    rw [List.range_succ, List.flatMap_append, List.length_append, h1]
    have h0 : 0 ≤ dgt t (p + n) := by unfold dgt; omega
    simp only [List.flatMap_cons, List.flatMap_nil, List.append_nil]
    rw [(lp_facts _ h0 (h n (by omega))).2.2 c]
    omega
theorem digs_next (t : ByteArray) (p : Nat) (c : Bool) (n : Nat) : digs_ t p c (n + 1) = digs_ t p c n ++ bars c (lp (dgt t (p + n))) := by
  unfold digs_
  rw [List.range_succ, List.flatMap_append]
  simp
theorem dgt_at (t : ByteArray) (n : Nat) (ht : t.size = n) (hd : AllDig t n) (i : Nat) (hi : i < n) (h : i < t.size) : ∃ b : Int, ((t[i]'h).toNat : Int) = b ∧ 48 ≤ b ∧ b ≤ 57 ∧ dgt t i = b - 48 := by
  have h1 := hd i hi
  have h2 := (dgt_ok t i).1 h1
  refine ⟨_, rfl, ?_⟩
  rw [bt_get t i h]
  refine ⟨by omega, by omega, ?_⟩
  unfold dgt
  omega
theorem isDig_all (t : ByteArray) (n : Nat) (ht : t.size = n) (hd : AllDig t n) : ∀ i (hi : i < t.size), isDig (t[i]'hi) := by
  intro i hi
  obtain ⟨b, hb, h1, h2, _⟩ := dgt_at t n ht hd i (by omega) hi
  unfold isDig
  omega
theorem own_all (s : ByteArray) (m : Nat) (h : s.size = m) : s.extract 0 m = s := by
  have : (s.extract 0 m).data = s.data := by
    subst h
    simp
  cases hx : s.extract 0 m with
  | mk d => rw [hx] at this; cases s; simpa using this
theorem ckText_size (s : ByteArray) (m : Nat) (h : m ≤ s.size) : (ckText s m).size = m + 1 := by
  unfold ckText
  rw [ByteArray.size_append, ByteArray.size_extract]
  have : (⟨#[UInt8.ofNat (48 + chk s m).toNat]⟩ : ByteArray).size = 1 := rfl
  omega
theorem bt_gd (s : ByteArray) (i : Nat) (h : i < s.size) : bt s i = ((s.data.toList.getD i 0).toNat : Int) := by
  have hl : i < s.data.toList.length := by rw [data_length]; exact h
  rw [← bt_at s (i : Int) (by simpa using h), List.getD_eq_getElem?_getD, List.getElem?_eq_getElem hl]
  rfl
theorem ckText_data (s : ByteArray) (m : Nat) : (ckText s m).data.toList = (s.extract 0 m).data.toList ++ [UInt8.ofNat (48 + chk s m).toNat] := by
  unfold ckText
  rw [ba_append]
theorem ckText_dgt (s : ByteArray) (m i : Nat) (h : m ≤ s.size) (hi : i < m) : dgt (ckText s m) i = dgt s i := by
  have h1 : i < (ckText s m).size := by rw [ckText_size s m h]; omega
  have h2 : i < (s.extract 0 m).size := by rw [ByteArray.size_extract]; omega
  have h3 : i < (s.extract 0 m).data.toList.length := by rw [data_length]; exact h2
  rw [← dgt_extract s m i h hi]
  unfold dgt
  rw [bt_gd _ i h1, bt_gd _ i h2, ckText_data, List.getD_eq_getElem?_getD, List.getD_eq_getElem?_getD, List.getElem?_append_left h3]
theorem ckText_last (s : ByteArray) (m : Nat) (h : m ≤ s.size) : dgt (ckText s m) m = chk s m := by
  have h1 : m < (ckText s m).size := by rw [ckText_size s m h]; omega
  have hr := chk_range s m
  have hs : (s.extract 0 m).data.toList.length = m := by rw [data_length, ByteArray.size_extract]; omega
  have e : bt (ckText s m) m = 48 + chk s m := by
    rw [bt_gd _ m h1, ckText_data, List.getD_eq_getElem?_getD, List.getElem?_append_right (by omega), hs, Nat.sub_self]
    show ((UInt8.ofNat (48 + chk s m).toNat).toNat : Int) = _
    rw [utf_lt _ hr.1 hr.2]
    omega
  unfold dgt
  rw [e]
  omega
theorem ckText_all (s : ByteArray) (m : Nat) (h : m ≤ s.size) (hd : AllDig s m) : AllDig (ckText s m) (m + 1) := by
  intro i hi
  by_cases e : i = m
  · subst e; rw [ckText_last s i h]; exact (chk_range s i).2
  · rw [ckText_dgt s m i h (by omega)]; exact hd i (by omega)

/-! ### The reference's bars of EAN -/
def bF (s : ByteArray) : Nat → Nat → Bool → List Bool
  | _, 0, _ => []
  | i, d + 1, c => List.replicate ((bt s i - 48) % 256).toNat c ++ bF s (i + 1) d (!c)
theorem ob_run (s : ByteArray) (n : Nat) (hn : s.size = n) (hm : n ≤ 100) : ∀ (d i : Nat) (l : List Bool) (c : Bool), i + d = n → l.length + 256 * d ≤ 1000000 → Ev (fun k => F.spec_odBars.l0 k l s c n i) (l ++ bF s i d c) := by
  intro d
  induction d with
  | zero =>
    intro i l c hi hl
    refine Ev.step (f := fun _ => some l) (fun k => ?_) ?_
    · rw [F.spec_odBars.l0, if_neg (by omega)]
    · simpa [bF] using Ev.now l
  | succ d ih =>
    intro i l c hi hl
    obtain ⟨m, hm2⟩ : ∃ m : Nat, (bt s i - 48) % 256 = m := ⟨((bt s i - 48) % 256).toNat, by omega⟩
    have hm3 : m < 256 := by omega
    refine Ev.step (f := fun k => F.spec_odBars.l1 k l s c n i m ((0 : Nat) : Int)) (fun k => ?_) ?_
    · rw [F.spec_odBars.l0, if_pos (by omega), if_pos (by omega), if_pos (by omega), hm2]
      rfl
    · suffices H : ∀ (e j : Nat) (zs : List Bool), j + e = m → zs.length + e + 256 * d ≤ 1000000 → zs ++ List.replicate e c = l ++ List.replicate m c → Ev (fun k => F.spec_odBars.l1 k zs s c n i m (j : Int)) (l ++ bF s i (d + 1) c) from
        H m 0 l (by omega) (by omega) rfl
      intro e
      induction e with
      | zero =>
        intro j zs hj hz hzz
        have h1 := ih (i + 1) zs (!c) (by omega) (by omega)
        refine Ev.step (f := fun k => F.spec_odBars.l0 k zs s (!c) n ((i + 1 : Nat) : Int)) (fun k => ?_) ?_
        · rw [F.spec_odBars.l1, if_neg (by omega), show wrap64 ((i : Int) + 1) = ((i + 1 : Nat) : Int) by unfold wrap64; omega]
        · simp only [List.replicate_zero, List.append_nil] at hzz
          have e2 : l ++ bF s i (d + 1) c = zs ++ bF s (i + 1) d (!c) := by
            simp only [bF, hm2, Int.toNat_natCast, ← List.append_assoc, hzz]
          rw [e2]
          exact h1
      | succ e ihe =>
        intro j zs hj hz hzz
        refine Ev.step (f := fun k => F.spec_odBars.l1 k (zs ++ [c]) s c n i m ((j + 1 : Nat) : Int)) (fun k => ?_) (ihe (j + 1) (zs ++ [c]) (by omega) (by simp; omega) (by rw [← hzz]; simp [List.replicate_succ]))
        rw [F.spec_odBars.l1, if_pos (by omega), if_pos (by omega), show ((j : Int) + 1) % 256 = ((j + 1 : Nat) : Int) by omega]
theorem odBarsE (s : ByteArray) (l : List Bool) (c : Bool) (hm : s.size ≤ 100) (hl : l.length ≤ 900000) : Ev (fun k => F.spec_odBars.f k l s c) (l ++ bF s 0 s.size c) :=
  ob_run s s.size rfl hm s.size 0 l c (by omega) (by omega)
/-- odBars with a row of one's own. -/
theorem bars66 (w0 w : World) (v : Value) (s : ByteArray) (l : List Bool) (c : Bool) (bs : List Bool) (hbs : bF s 0 s.size c = bs) (hm : s.size ≤ 100) (hl : l.length ≤ 900000) (hB : Below w0.heap.size w0 w) (hr : Kd.R Kd.bool 4 w w0.heap.size (fun _ => True) v l) :
    Calls Tryz.prog 66 #[v, .string s, .bool c] w fun e w' => ∃ v', e = .returned v' ∧ Kd.R Kd.bool 4 w' w0.heap.size (fun _ => True) v' (l ++ bs) ∧ Below w0.heap.size w0 w' := by
  subst hbs
  obtain ⟨k, hk⟩ := (odBarsE s l c hm hl).rounds
  refine (F.spec_odBars.calls k (fun _ => True) v l s c _ w0 w hB hr hk).mono ?_
  rintro e w' ⟨v', rfl, h1, h2, _⟩
  exact ⟨v', rfl, Kd.R_mono h1 (fun _ _ => trivial), h2⟩
def dW (m : Nat) : ByteArray := [(⟨#[51, 50, 49, 49]⟩ : ByteArray), ⟨#[50, 50, 50, 49]⟩, ⟨#[50, 49, 50, 50]⟩, ⟨#[49, 52, 49, 49]⟩, ⟨#[49, 49, 51, 50]⟩, ⟨#[49, 50, 51, 49]⟩, ⟨#[49, 49, 49, 52]⟩, ⟨#[49, 51, 49, 50]⟩, ⟨#[49, 50, 49, 51]⟩, ⟨#[51, 49, 49, 50]⟩].getD m ⟨#[]⟩
theorem dW_facts (m : Nat) (h : m < 10) : F.spec_odWidths.f (48 + (m : Int)) = some (dW m) ∧ (dW m).size = 4 ∧ ∀ c, bF (dW m) 0 4 c = bars c (lp m) := by
  have : ∀ m : Fin 10, F.spec_odWidths.f (48 + ((m.val : Nat) : Int)) = some (dW m.val) ∧ (dW m.val).size = 4 ∧ ∀ c, bF (dW m.val) 0 4 c = bars c (lp (m.val : Nat)) := by decide +kernel
  exact this ⟨m, h⟩
/-- odDigit by the sets A and C. -/
theorem dig68 (w0 w : World) (v : Value) (l : List Bool) (b set : Int) (c : Bool) (hs : (set = 65 ∧ c = false) ∨ (set = 67 ∧ c = true)) (h0 : 48 ≤ b) (h9 : b ≤ 57) (hl : l.length ≤ 900000) (hB : Below w0.heap.size w0 w) (hr : Kd.R Kd.bool 4 w w0.heap.size (fun _ => True) v l) :
    Calls Tryz.prog 68 #[v, .int .u8 b, .int .u8 set] w fun e w' => ∃ v', e = .returned v' ∧ Kd.R Kd.bool 4 w' w0.heap.size (fun _ => True) v' (l ++ bars c (lp (b - 48))) ∧ Below w0.heap.size w0 w' := by
  obtain ⟨m, hm⟩ : ∃ m : Nat, b = 48 + (m : Int) := ⟨(b - 48).toNat, by omega⟩
  have hm10 : m < 10 := by omega
  subst hm
  obtain ⟨h1, h2, h3⟩ := dW_facts m hm10
  have he := odBarsE (dW m) l c (by omega) hl
  rw [h2, h3 c] at he
  have hd : Ev (fun k => F.spec_odDigit.f k l (48 + (m : Int)) set) (l ++ bars c (lp m)) := by
    refine Ev.congr (f := fun k => (F.spec_odBars.f k l (dW m) c).bind fun t => some t) (fun k => ?_) (he.bind (Ev.now _))
    unfold F.spec_odDigit.f
    rw [h1]
    rcases hs with ⟨rfl, rfl⟩ | ⟨rfl, rfl⟩ <;> rfl
  obtain ⟨k, hk⟩ := hd.rounds
  refine (F.spec_odDigit.calls k (fun _ => True) v l _ set _ w0 w hB hr hk).mono ?_
  rintro e w' ⟨v', rfl, h1, h2, _⟩
  refine ⟨v', rfl, ?_, h2⟩
  rw [show (48 + (m : Int)) - 48 = m by omega]
  exact Kd.R_mono h1 (fun _ _ => trivial)

/-! ### A row of its own width, trimmed -/
theorem row_plain (code : List Bool) (h : code.length ≤ 1000) : rowOf code 0 20 = List.replicate 10 false ++ (code ++ List.replicate 10 false) := by
  have e1 : rOut code 0 20 = (code.length : Int) + 20 := by unfold rOut rFull; rw [if_neg (by omega)]
  have e2 : rMany code 0 20 = 1 := by unfold rMany rFull; rw [e1]; exact Int.ediv_self (by omega)
  have e3 : rLeft code 0 20 = 10 := by unfold rLeft; rw [e1, e2]; omega
  unfold rowOf rowList
  rw [e1, e2, e3]
  apply List.ext_getElem
  · simp; omega
  · intro i h1 h2
    simp only [List.getElem_map, List.getElem_range]
    unfold rowAt
    simp only [List.length_map, List.length_range] at h1
    by_cases c1 : i < 10
    · rw [if_neg (by omega), List.getElem_append_left (by simpa using c1), List.getElem_replicate]
    · rw [List.getElem_append_right (by simp; omega)]
      by_cases c2 : i < 10 + code.length
      · rw [if_pos (by omega), List.getElem_append_left (by simp; omega), Int.ediv_one]
        unfold rdOf
        rw [List.getD_eq_getElem?_getD, show ((i : Int) - 10).toNat = i - (List.replicate 10 false).length by simp; omega, List.getElem?_eq_getElem (by simp; omega)]
        rfl
      · rw [if_neg (by omega), List.getElem_append_right (by simp; omega), List.getElem_replicate]
theorem trim_back (code : List Bool) (h0 : 0 < code.length) (hz : rdOf false code (code.length - 1 : Int) = true) (hl : code.length ≤ 1000) : ∀ b, b ≤ 1000 → Ev (fun k => F.spec_ODTrimmed.l1 k (code ++ List.replicate b false)) code := by
  intro b
  induction b with
  | zero =>
    intro _
    rw [List.replicate_zero, List.append_nil]
    refine Ev.step (f := fun _ => some code) (fun k => ?_) (Ev.now _)
    rw [F.spec_ODTrimmed.l1, show wrap64 ((code.length : Int) - 1) = (code.length : Int) - 1 by unfold wrap64; omega, if_pos (by omega), if_pos (by omega), if_pos (by omega), if_pos hz]
  | succ b ih =>
    intro hb
    have hL : (code ++ List.replicate (b + 1) false).length = code.length + b + 1 := by simp; omega
    have hr : rdOf false (code ++ List.replicate (b + 1) false) (((code ++ List.replicate (b + 1) false).length : Int) - 1) = false := by
      unfold rdOf
      rw [hL, List.getD_eq_getElem?_getD, List.getElem?_append_right (by omega)]
      rw [List.getElem?_replicate, if_pos (by omega)]
      rfl
    have ht : (code ++ List.replicate (b + 1) false).take (((code ++ List.replicate (b + 1) false).length : Int) - 1).toNat = code ++ List.replicate b false := by
      rw [hL, show (((code.length + b + 1 : Nat) : Int) - 1).toNat = code.length + b by omega, List.take_append]
      rw [List.take_of_length_le (by omega), List.take_replicate, show min (code.length + b - code.length) (b + 1) = b by omega]
    have hw : wrap64 (((code ++ List.replicate (b + 1) false).length : Int) - 1) = ((code ++ List.replicate (b + 1) false).length : Int) - 1 := by unfold wrap64; omega
    refine Ev.step (fun k => ?_) (ih (by omega))
    rw [F.spec_ODTrimmed.l1, hw, hr, ht, if_pos (by omega), if_pos (by omega), if_pos (by omega), if_neg (by simp), if_pos (by omega)]
theorem trim_front (code : List Bool) (h0 : 0 < code.length) (hf : rdOf false code 0 = true) (hz : rdOf false code (code.length - 1 : Int) = true) (hl : code.length ≤ 1000) (b : Nat) (hb : b ≤ 1000) : ∀ a, a ≤ 1000 → Ev (fun k => F.spec_ODTrimmed.l0 k (List.replicate a false ++ (code ++ List.replicate b false))) code := by
  intro a
  induction a with
  | zero =>
    intro _
    rw [List.replicate_zero, List.nil_append]
    have hr : rdOf false (code ++ List.replicate b false) 0 = true := by
      unfold rdOf at hf ⊢
      rw [List.getD_eq_getElem?_getD] at hf ⊢
      rw [List.getElem?_append_left (by simpa using h0)]
      exact hf
    refine Ev.step (f := fun k => F.spec_ODTrimmed.j1 k (code ++ List.replicate b false)) (fun k => ?_) (Ev.step (f := fun k => F.spec_ODTrimmed.l1 k (code ++ List.replicate b false)) (fun k => ?_) (trim_back code h0 hz hl b hb))
    · rw [F.spec_ODTrimmed.l0, if_pos (by simp; omega), if_pos (by simp; omega), if_pos hr]
    · rw [F.spec_ODTrimmed.j1]
  | succ a ih =>
    intro ha
    have hr : rdOf false (List.replicate (a + 1) false ++ (code ++ List.replicate b false)) 0 = false := rfl
    refine Ev.step (fun k => ?_) (ih (by omega))
    rw [F.spec_ODTrimmed.l0, if_pos (by simp; omega), if_pos (by simp; omega), hr, if_neg (by simp), if_pos (by simp; omega)]
    rfl
theorem same_self (l : List Bool) (hl : l.length ≤ 100000) : Ev (fun k => F.spec_ODSame.f k l l) true := by
  have H : ∀ d i : Nat, i + d = l.length → Ev (fun k => F.spec_ODSame.l0 k l l (l.length : Int) (i : Int)) true := by
    intro d
    induction d with
    | zero =>
      intro i hi
      refine Ev.step (f := fun _ => some true) (fun k => ?_) (Ev.now _)
      rw [F.spec_ODSame.l0, if_neg (by omega)]
    | succ d ih =>
      intro i hi
      refine Ev.step (fun k => ?_) (ih (i + 1) (by omega))
      rw [F.spec_ODSame.l0, if_pos (by omega), if_pos (by omega), if_pos (by omega), if_pos (by omega), if_neg (by simp), show wrap64 ((i : Int) + 1) = ((i + 1 : Nat) : Int) by unfold wrap64; omega]
  refine Ev.congr (fun k => ?_) (H l.length 0 (by omega))
  unfold F.spec_ODSame.f
  rw [if_pos rfl]
  rfl
/-- The row of a code, trimmed, is the code. -/
theorem trim43 (w : World) (b : Nat) (code : List Bool) (h0 : 0 < code.length) (hf : rdOf false code 0 = true) (hz : rdOf false code (code.length - 1 : Int) = true) (hl : code.length ≤ 1000) (n : Nat) (hn : (rowOf code 0 20).length = n) (hb : Blk w b 4 (bools (rowOf code 0 20)).toArray) :
    Calls Tryz.prog 43 #[.slice (some ⟨b, 0, none⟩) n n] w fun e w' => ∃ v, e = .returned v ∧ Kd.V Kd.bool 4 w' w.heap.size (fun _ => True) v code ∧ Below w.heap.size w w' := by
  subst hn
  have hR := R_of_blk (base := 0) hb rfl (by rw [row_plain code hl]; simp; omega) (by omega)
  obtain ⟨k, hk⟩ := (trim_front code h0 hf hz hl 10 (by omega) 10 (by omega)).rounds
  rw [← row_plain code hl] at hk
  refine (F.spec_ODTrimmed.calls k (fun _ => True) _ _ _ code w (Kd.V_mono (Kd.R_V hR) (fun _ _ => trivial)) hk).mono ?_
  rintro e w' ⟨v, rfl, h1, h2⟩
  exact ⟨v, rfl, Kd.V_mono h1 (fun _ _ => trivial), h2⟩

/-! ### The encoder of EAN-8 -/
def pre8 (t : ByteArray) (i : Nat) : List Bool := bars true [1, 1, 1] ++ digs_ t 0 false i
def mid8 (t : ByteArray) (i : Nat) : List Bool := pre8 t 4 ++ bars false [1, 1, 1, 1, 1] ++ digs_ t 4 true i
def code8 (t : ByteArray) : List Bool := mid8 t 4 ++ bars true [1, 1, 1]
theorem pre8_length (t : ByteArray) (h : AllDig t 8) (i : Nat) (hi : i ≤ 4) : (pre8 t i).length = 3 + 7 * i := by
  unfold pre8
  rw [List.length_append, digs_length _ _ _ _ (fun k hk => h _ (by omega))]
  rfl
theorem mid8_length (t : ByteArray) (h : AllDig t 8) (i : Nat) (hi : i ≤ 4) : (mid8 t i).length = 36 + 7 * i := by
  unfold mid8
  rw [List.length_append, List.length_append, digs_length _ _ _ _ (fun k hk => h _ (by omega)), pre8_length t h 4 (by omega)]
  have : (bars false [1, 1, 1, 1, 1]).length = 5 := rfl
  omega
theorem code8_length (t : ByteArray) (h : AllDig t 8) : (code8 t).length = 67 := by
  unfold code8
  rw [List.length_append, mid8_length t h 4 (by omega)]
  rfl
def z67 : List Bool := List.replicate 67 false
theorem z67_length : z67.length = 67 := by simp [z67]
theorem make_67 (w : World) : (Instr.makeSlice 27 (.int .i64 67) (.int .i64 67)).run Tryz.prog w = .ok (.slice (some ⟨w.heap.size, 0, none⟩) 67 67) (w.alloc (.cells (bools z67).toArray 4)) := make_bool 67 (by omega) w
/-- The text that is written: with its check digit. -/
def Full (s : ByteArray) (m : Nat) (t : ByteArray) : Prop := (s.size = m ∧ AllDig s m ∧ t = ckText s m) ∨ (s.size = m + 1 ∧ AllDig s (m + 1) ∧ dgt s m = chk s m ∧ t = s)
theorem Full.size {s t : ByteArray} {m : Nat} (h : Full s m t) : t.size = m + 1 := by
  rcases h with ⟨h1, h2, rfl⟩ | ⟨h1, h2, h3, rfl⟩
  · exact ckText_size s m (by omega)
  · exact h1
theorem Full.all {s t : ByteArray} {m : Nat} (h : Full s m t) : AllDig t (m + 1) := by
  rcases h with ⟨h1, h2, rfl⟩ | ⟨h1, h2, h3, rfl⟩
  · exact ckText_all s m (by omega) h2
  · exact h2

set_option maxHeartbeats 4000000 in
set_option maxRecDepth 100000 in
theorem enc8_ok (w : World) (mv : Value) (s t : ByteArray) (h : Full s 7 t) :
    Calls Tryz.prog 158 #[.agg #[], .string s, mv] w fun e w' => ∃ v, e = .returned (.tuple #[v, .nilIface]) ∧ Kd.R Kd.bool 4 w' w.heap.size (fun _ => True) v (code8 t) ∧ Below w.heap.size w w' := by
  have HTS := Aside0.mk h.size
  have HTA := Aside0.mk h.all
  have hmk := make_67
  have hsplit : (∃ (e : (s.size : Int) = 7), AllDig s 7 ∧ t = ckText s 7) ∨ (∃ (e : (s.size : Int) = 8), AllDig s 7 ∧ dgt s 7 = chk s 7 ∧ t = s) := by
    rcases h with ⟨h1, h2, h3⟩ | ⟨h1, h2, h3, h4⟩
    · exact .inl ⟨by omega, h2, h3⟩
    · exact .inr ⟨by omega, fun i hi => h2 i (by omega), h3, h4⟩
  clear h
  rcases hsplit with ⟨hsI, hd, ht⟩ | ⟨hsI, hd, hck, ht⟩
  · have HD := Aside0.mk hd
    have HT := Aside0.mk ht
    have HS := Aside0.mk (show s.size = 7 by omega)
    clear hd ht
    go_enter Tryz.func158, Tryz.ntmps158
    go_wp2_with fail
    refine (ck160 _ s 7 HS.out (by omega)).mono ?_
    rintro e w1 ⟨hp, hb⟩
    have he : e = .returned (.tuple #[.int .i64 (chk s 7), .nilIface]) := by
      rcases hp with ⟨_, h⟩ | ⟨h, _⟩
      · exact h
      · exact absurd HD.out h
    subst he
    have HB1 := Aside0.mk ((below_alloc (Below.refl _ w) (.cells #[] 92)).trans (hb.mono (by simp)))
    clear hp hb
    go_wp2_with fail
    refine (itoaCk _ s 7).mono ?_
    obtain ⟨ck, hck⟩ : ∃ x : ByteArray, (⟨#[UInt8.ofNat (48 + chk s 7).toNat]⟩ : ByteArray) = x := ⟨_, rfl⟩
    have hcs : ck.size = 1 := by rw [← hck]; rfl
    have c9 : s.size + ck.size ≤ 9223372036854775807 := by omega
    have c9b0 := eq_true c9
    have c9b1 : decide (s.size + ck.size ≤ 9223372036854775807) = true := decide_eq_true c9
    have c9b2 : (9223372036854775807 < s.size + ck.size) = False := eq_false (Nat.not_lt.2 c9)
    have HTT := Aside0.mk (show s ++ ck = t by rw [HT.out]; unfold ckText; rw [own_all s 7 HS.out, hck])
    rw [hck]
    rintro e wz ⟨rfl, hb⟩
    have HBZ := Aside0.mk (HB1.out.trans (hb.mono HB1.out.size))
    clear hb HB1 hck hcs
    go_wp2_with fail
    rw [HTT.out]
    clear c9 c9b0 c9b1 c9b2 hsI
    refine (numeric _ t (by have := HTS.out; omega) t.size (Nat.le_refl _) (isDig_all t 8 HTS.out HTA.out) (fun h => absurd h (Nat.lt_irrefl _))).mono ?_
    rintro e w2 ⟨v, rfl, hv, hb2⟩
    obtain rfl : v = .nilIface := by unfold NumPost at hv; rw [if_pos rfl] at hv; exact hv
    have HB2 := Aside0.mk (HBZ.out.trans (hb2.mono HBZ.out.size))
    clear hv hb2 HBZ
    go_wp2_with fail
    obtain ⟨gt, hgt⟩ : ∃ gt, w2.heap.size = gt := ⟨_, rfl⟩
    obtain ⟨w3, hw3⟩ : ∃ w3, w2.alloc (.cells (bools z67).toArray 4) = w3 := ⟨_, rfl⟩
    have hbk : Blk w3 gt 4 (bools (put z67 [])).toArray := by rw [← hw3, ← hgt, put_nil]; exact Blk.new _ _ _
    have hb3 : Below w.heap.size w w3 := by rw [← hw3]; exact HB2.out.trans ((below_alloc (Below.refl _ w2) _).mono HB2.out.size)
    have hge : w.heap.size ≤ gt := by rw [← hgt]; exact HB2.out.size
    have HB3 := Aside0.mk hb3
    have HBK := Aside0.mk hbk
    simp only [hw3, hgt]
    clear hb3 hbk hw3 hgt HB2 hmk
    refine (pat163 _).mono ?_
    rintro e w4 ⟨A4, c4, rfl, hc4, hC4, hb4⟩
    have HBK4 := Aside0.mk (HBK.out.below hb4 HBK.out.lt)
    have HB4 := Aside0.mk (HB3.out.trans (hb4.mono HB3.out.size))
    have HC4 := Aside0.mk hC4
    clear hb4 hC4 HBK HB3
    go_wp2_with fail
    refine (appendPat' w4 gt 67 z67 [] A4 c4 [1, 1, 1] true 0 3 rfl rfl HBK4.out z67_length (by omega) (by omega) 3 rfl HC4.out hc4 (by decide) (by omega) (by omega)).mono ?_
    rintro e w5 ⟨rfl, hx, hu⟩
    have HX5 := Aside0.mk hx
    have HB5 := Aside0.mk (HB4.out.trans (hu.below hge HB4.out.size))
    clear hx hu HBK4 HB4 HC4 hc4
    go_wp2
    go_loopw [15, 16] (fun pv v wr => ∃ i : Nat, i ≤ 4 ∧ v = .int .i64 i ∧ pv = .int .i64 (3 + 7 * (i : Int)) ∧ Aside0 (Blk wr gt 4 (bools (put z67 (pre8 t i))).toArray) ∧ Aside0 (Below w.heap.size w wr)) (fun _ v _ => 4 - (intOf v).toNat)
    case atStart => exact ⟨0, by omega, rfl, rfl, ⟨by have := HX5.out; simpa [pre8, digs_] using this⟩, HB5⟩
    case round =>
      obtain ⟨i, hi, rfl, rfl, HX, HB⟩ := hrel
      clear HX5 HB5
      by_cases hlt : i < 4
      · have d1 : decide ((i : Int) ≤ 3) = true := decide_eq_true (by omega)
        have hit : i < t.size := by have := HTS.out; omega
        obtain ⟨b, hbt, hb48, hb57, hbd⟩ := dgt_at t 8 HTS.out HTA.out i (by omega) hit
        have HBD := Aside0.mk hbd
        clear hbd
        go_wp2_with fail
        refine (pats164 _ (b - 48) (by omega) (by omega)).mono ?_
        rintro e w6 ⟨ad, c6, A6, c7, rfl, hcell, hc7, hC7, hb6⟩
        have HX6 := Aside0.mk (HX.out.below hb6 HX.out.lt)
        have HB6 := Aside0.mk (HB.out.trans (hb6.mono HB.out.size))
        have HC7 := Aside0.mk hC7
        clear hC7 hb6 HX HB
        go_wp2_with fail
        obtain ⟨l1, l2, l3⟩ := lp_facts (b - 48) (by omega) (by omega)
        have hpl := pre8_length t HTA.out i (by omega)
        refine (appendPat' w6 gt 67 z67 (pre8 t i) A6 c7 (lp (b - 48)) false (3 + 7 * (i : Int)) 7 (by rw [hpl]; omega) (by rw [l3 false]; rfl) HX6.out z67_length (by omega) (by omega) 4 l1 HC7.out hc7 l2 (by omega) (by omega)).mono ?_
        rintro e w7 ⟨rfl, hx, hu⟩
        have HX7 := Aside0.mk hx
        have HB7 := Aside0.mk (HB6.out.trans (hu.below hge HB6.out.size))
        clear hx hu HX6 HB6 HC7 hcell l1 l2 l3 hpl
        go_wp2
        go_roundw
        case rel => exact ⟨i + 1, by omega, by go_num, by go_num, ⟨by
          have := HX7.out
          rw [show pre8 t (i + 1) = pre8 t i ++ bars false (lp (b - 48)) by unfold pre8; rw [digs_next, Nat.zero_add, HBD.out, List.append_assoc]]
          exact this⟩, HB7⟩
        case measure => simp [intOf]; omega
      · obtain rfl : i = 4 := by omega
        go_wp2_with fail
        refine (pat165 _).mono ?_
        rintro e w4 ⟨A4, c4, rfl, hc4, hC4, hb4⟩
        have HX4 := Aside0.mk (HX.out.below hb4 HX.out.lt)
        have HB4 := Aside0.mk (HB.out.trans (hb4.mono HB.out.size))
        have HC4 := Aside0.mk hC4
        clear hb4 hC4 HX HB
        go_wp2_with fail
        have hpl := pre8_length t HTA.out 4 (by omega)
        refine (appendPat' w4 gt 67 z67 (pre8 t 4) A4 c4 [1, 1, 1, 1, 1] false 31 5 (by rw [hpl]; rfl) rfl HX4.out z67_length (by omega) (by omega) 5 rfl HC4.out hc4 (by decide) (by omega) (by omega)).mono ?_
        rintro e w5 ⟨rfl, hx, hu⟩
        have HX5 := Aside0.mk hx
        have HB5 := Aside0.mk (HB4.out.trans (hu.below hge HB4.out.size))
        clear hx hu HX4 HB4 HC4 hc4 hpl hlt hi
        go_wp2
        go_loopw [15, 18] (fun pv v wr => ∃ i : Nat, i ≤ 4 ∧ v = .int .i64 (4 + (i : Int)) ∧ pv = .int .i64 (36 + 7 * (i : Int)) ∧ Aside0 (Blk wr gt 4 (bools (put z67 (mid8 t i))).toArray) ∧ Aside0 (Below w.heap.size w wr)) (fun _ v _ => 8 - (intOf v).toNat)
        case atStart => exact ⟨0, by omega, rfl, rfl, ⟨by have := HX5.out; simpa [mid8, digs_] using this⟩, HB5⟩
        case round =>
          obtain ⟨i, hi, rfl, rfl, HX, HB⟩ := hrel
          clear HX5 HB5
          by_cases hlt : i < 4
          · have d1 : decide (4 + (i : Int) ≤ 7) = true := decide_eq_true (by omega)
            have hit : 4 + i < t.size := by have := HTS.out; omega
            obtain ⟨b, hbt, hb48, hb57, hbd⟩ := dgt_at t 8 HTS.out HTA.out (4 + i) (by omega) hit
            have HBD := Aside0.mk hbd
            clear hbd
            go_wp2_with fail
            refine (pats164 _ (b - 48) (by omega) (by omega)).mono ?_
            rintro e w6 ⟨ad, c6, A6, c7, rfl, hcell, hc7, hC7, hb6⟩
            have HX6 := Aside0.mk (HX.out.below hb6 HX.out.lt)
            have HB6 := Aside0.mk (HB.out.trans (hb6.mono HB.out.size))
            have HC7 := Aside0.mk hC7
            clear hC7 hb6 HX HB
            go_wp2_with fail
            obtain ⟨l1, l2, l3⟩ := lp_facts (b - 48) (by omega) (by omega)
            have hpl := mid8_length t HTA.out i (by omega)
            refine (appendPat' w6 gt 67 z67 (mid8 t i) A6 c7 (lp (b - 48)) true (36 + 7 * (i : Int)) 7 (by rw [hpl]; omega) (by rw [l3 true]; rfl) HX6.out z67_length (by omega) (by omega) 4 l1 HC7.out hc7 l2 (by omega) (by omega)).mono ?_
            rintro e w7 ⟨rfl, hx, hu⟩
            have HX7 := Aside0.mk hx
            have HB7 := Aside0.mk (HB6.out.trans (hu.below hge HB6.out.size))
            clear hx hu HX6 HB6 HC7 hcell l1 l2 l3 hpl
            go_wp2
            go_roundw
            case rel => exact ⟨i + 1, by omega, by go_num, by go_num, ⟨by
              have := HX7.out
              rw [show mid8 t (i + 1) = mid8 t i ++ bars true (lp (b - 48)) by unfold mid8; rw [digs_next, HBD.out]; simp only [List.append_assoc]]
              exact this⟩, HB7⟩
            case measure => simp [intOf]; omega
          · obtain rfl : i = 4 := by omega
            go_wp2_with fail
            refine (pat163 _).mono ?_
            rintro e w6 ⟨A6, c6, rfl, hc6, hC6, hb6⟩
            have HX6 := Aside0.mk (HX.out.below hb6 HX.out.lt)
            have HB6 := Aside0.mk (HB.out.trans (hb6.mono HB.out.size))
            have HC6 := Aside0.mk hC6
            clear hb6 hC6 HX HB
            go_wp2_with fail
            have hpl := mid8_length t HTA.out 4 (by omega)
            refine (appendPat' w6 gt 67 z67 (mid8 t 4) A6 c6 [1, 1, 1] true 64 3 (by rw [hpl]; rfl) rfl HX6.out z67_length (by omega) (by omega) 3 rfl HC6.out hc6 (by decide) (by omega) (by omega)).mono ?_
            rintro e w7 ⟨rfl, hx, hu⟩
            have HX7 := Aside0.mk hx
            have HB7 := Aside0.mk (HB6.out.trans (hu.below hge HB6.out.size))
            clear hx hu HX6 HB6 HC6 hc6 hpl
            go_wp2
            go_ret2
            have hlen := code8_length t HTA.out
            refine ⟨_, rfl, ?_, HB7.out⟩
            have hx' : Blk w7 gt 4 (bools (put z67 (code8 t))).toArray := HX7.out
            rw [put_all _ _ (by rw [hlen, z67_length])] at hx'
            exact Kd.R_mono (R_of_blk hx' hlen (by omega) hge) (fun _ _ => trivial)
  · have HD := Aside0.mk hd
    subst ht
    have HCK := Aside0.mk hck
    have HS := Aside0.mk (show t.size = 8 by omega)
    clear hd hck
    go_enter Tryz.func158, Tryz.ntmps158
    go_wp2_with fail
    refine (ck161 _ t 7 HS.out (by omega)).mono ?_
    rintro e wz ⟨hp, hb⟩
    have he : e = .returned (.tuple #[.bool true, .nilIface]) := by
      rcases hp with ⟨_, h⟩ | ⟨h, _⟩
      · rw [h, decide_eq_true HCK.out]
      · exact absurd HD.out h
    subst he
    have HBZ := Aside0.mk ((below_alloc (Below.refl _ w) (.cells #[] 92)).trans (hb.mono (by simp)))
    clear hp hb
    go_wp2_with fail
    clear hsI
    refine (numeric _ t (by have := HTS.out; omega) t.size (Nat.le_refl _) (isDig_all t 8 HTS.out HTA.out) (fun h => absurd h (Nat.lt_irrefl _))).mono ?_
    rintro e w2 ⟨v, rfl, hv, hb2⟩
    obtain rfl : v = .nilIface := by unfold NumPost at hv; rw [if_pos rfl] at hv; exact hv
    have HB2 := Aside0.mk (HBZ.out.trans (hb2.mono HBZ.out.size))
    clear hv hb2 HBZ
    go_wp2_with fail
    obtain ⟨gt, hgt⟩ : ∃ gt, w2.heap.size = gt := ⟨_, rfl⟩
    obtain ⟨w3, hw3⟩ : ∃ w3, w2.alloc (.cells (bools z67).toArray 4) = w3 := ⟨_, rfl⟩
    have hbk : Blk w3 gt 4 (bools (put z67 [])).toArray := by rw [← hw3, ← hgt, put_nil]; exact Blk.new _ _ _
    have hb3 : Below w.heap.size w w3 := by rw [← hw3]; exact HB2.out.trans ((below_alloc (Below.refl _ w2) _).mono HB2.out.size)
    have hge : w.heap.size ≤ gt := by rw [← hgt]; exact HB2.out.size
    have HB3 := Aside0.mk hb3
    have HBK := Aside0.mk hbk
    simp only [hw3, hgt]
    clear hb3 hbk hw3 hgt HB2 hmk
    refine (pat163 _).mono ?_
    rintro e w4 ⟨A4, c4, rfl, hc4, hC4, hb4⟩
    have HBK4 := Aside0.mk (HBK.out.below hb4 HBK.out.lt)
    have HB4 := Aside0.mk (HB3.out.trans (hb4.mono HB3.out.size))
    have HC4 := Aside0.mk hC4
    clear hb4 hC4 HBK HB3
    go_wp2_with fail
    refine (appendPat' w4 gt 67 z67 [] A4 c4 [1, 1, 1] true 0 3 rfl rfl HBK4.out z67_length (by omega) (by omega) 3 rfl HC4.out hc4 (by decide) (by omega) (by omega)).mono ?_
    rintro e w5 ⟨rfl, hx, hu⟩
    have HX5 := Aside0.mk hx
    have HB5 := Aside0.mk (HB4.out.trans (hu.below hge HB4.out.size))
    clear hx hu HBK4 HB4 HC4 hc4
    go_wp2
    go_loopw [15, 16] (fun pv v wr => ∃ i : Nat, i ≤ 4 ∧ v = .int .i64 i ∧ pv = .int .i64 (3 + 7 * (i : Int)) ∧ Aside0 (Blk wr gt 4 (bools (put z67 (pre8 t i))).toArray) ∧ Aside0 (Below w.heap.size w wr)) (fun _ v _ => 4 - (intOf v).toNat)
    case atStart => exact ⟨0, by omega, rfl, rfl, ⟨by have := HX5.out; simpa [pre8, digs_] using this⟩, HB5⟩
    case round =>
      obtain ⟨i, hi, rfl, rfl, HX, HB⟩ := hrel
      clear HX5 HB5
      by_cases hlt : i < 4
      · have d1 : decide ((i : Int) ≤ 3) = true := decide_eq_true (by omega)
        have hit : i < t.size := by have := HTS.out; omega
        obtain ⟨b, hbt, hb48, hb57, hbd⟩ := dgt_at t 8 HTS.out HTA.out i (by omega) hit
        have HBD := Aside0.mk hbd
        clear hbd
        go_wp2_with fail
        refine (pats164 _ (b - 48) (by omega) (by omega)).mono ?_
        rintro e w6 ⟨ad, c6, A6, c7, rfl, hcell, hc7, hC7, hb6⟩
        have HX6 := Aside0.mk (HX.out.below hb6 HX.out.lt)
        have HB6 := Aside0.mk (HB.out.trans (hb6.mono HB.out.size))
        have HC7 := Aside0.mk hC7
        clear hC7 hb6 HX HB
        go_wp2_with fail
        obtain ⟨l1, l2, l3⟩ := lp_facts (b - 48) (by omega) (by omega)
        have hpl := pre8_length t HTA.out i (by omega)
        refine (appendPat' w6 gt 67 z67 (pre8 t i) A6 c7 (lp (b - 48)) false (3 + 7 * (i : Int)) 7 (by rw [hpl]; omega) (by rw [l3 false]; rfl) HX6.out z67_length (by omega) (by omega) 4 l1 HC7.out hc7 l2 (by omega) (by omega)).mono ?_
        rintro e w7 ⟨rfl, hx, hu⟩
        have HX7 := Aside0.mk hx
        have HB7 := Aside0.mk (HB6.out.trans (hu.below hge HB6.out.size))
        clear hx hu HX6 HB6 HC7 hcell l1 l2 l3 hpl
        go_wp2
        go_roundw
        case rel => exact ⟨i + 1, by omega, by go_num, by go_num, ⟨by
          have := HX7.out
          rw [show pre8 t (i + 1) = pre8 t i ++ bars false (lp (b - 48)) by unfold pre8; rw [digs_next, Nat.zero_add, HBD.out, List.append_assoc]]
          exact this⟩, HB7⟩
        case measure => simp [intOf]; omega
      · obtain rfl : i = 4 := by omega
        go_wp2_with fail
        refine (pat165 _).mono ?_
        rintro e w4 ⟨A4, c4, rfl, hc4, hC4, hb4⟩
        have HX4 := Aside0.mk (HX.out.below hb4 HX.out.lt)
        have HB4 := Aside0.mk (HB.out.trans (hb4.mono HB.out.size))
        have HC4 := Aside0.mk hC4
        clear hb4 hC4 HX HB
        go_wp2_with fail
        have hpl := pre8_length t HTA.out 4 (by omega)
        refine (appendPat' w4 gt 67 z67 (pre8 t 4) A4 c4 [1, 1, 1, 1, 1] false 31 5 (by rw [hpl]; rfl) rfl HX4.out z67_length (by omega) (by omega) 5 rfl HC4.out hc4 (by decide) (by omega) (by omega)).mono ?_
        rintro e w5 ⟨rfl, hx, hu⟩
        have HX5 := Aside0.mk hx
        have HB5 := Aside0.mk (HB4.out.trans (hu.below hge HB4.out.size))
        clear hx hu HX4 HB4 HC4 hc4 hpl hlt hi
        go_wp2
        go_loopw [15, 18] (fun pv v wr => ∃ i : Nat, i ≤ 4 ∧ v = .int .i64 (4 + (i : Int)) ∧ pv = .int .i64 (36 + 7 * (i : Int)) ∧ Aside0 (Blk wr gt 4 (bools (put z67 (mid8 t i))).toArray) ∧ Aside0 (Below w.heap.size w wr)) (fun _ v _ => 8 - (intOf v).toNat)
        case atStart => exact ⟨0, by omega, rfl, rfl, ⟨by have := HX5.out; simpa [mid8, digs_] using this⟩, HB5⟩
        case round =>
          obtain ⟨i, hi, rfl, rfl, HX, HB⟩ := hrel
          clear HX5 HB5
          by_cases hlt : i < 4
          · have d1 : decide (4 + (i : Int) ≤ 7) = true := decide_eq_true (by omega)
            have hit : 4 + i < t.size := by have := HTS.out; omega
            obtain ⟨b, hbt, hb48, hb57, hbd⟩ := dgt_at t 8 HTS.out HTA.out (4 + i) (by omega) hit
            have HBD := Aside0.mk hbd
            clear hbd
            go_wp2_with fail
            refine (pats164 _ (b - 48) (by omega) (by omega)).mono ?_
            rintro e w6 ⟨ad, c6, A6, c7, rfl, hcell, hc7, hC7, hb6⟩
            have HX6 := Aside0.mk (HX.out.below hb6 HX.out.lt)
            have HB6 := Aside0.mk (HB.out.trans (hb6.mono HB.out.size))
            have HC7 := Aside0.mk hC7
            clear hC7 hb6 HX HB
            go_wp2_with fail
            obtain ⟨l1, l2, l3⟩ := lp_facts (b - 48) (by omega) (by omega)
            have hpl := mid8_length t HTA.out i (by omega)
            refine (appendPat' w6 gt 67 z67 (mid8 t i) A6 c7 (lp (b - 48)) true (36 + 7 * (i : Int)) 7 (by rw [hpl]; omega) (by rw [l3 true]; rfl) HX6.out z67_length (by omega) (by omega) 4 l1 HC7.out hc7 l2 (by omega) (by omega)).mono ?_
            rintro e w7 ⟨rfl, hx, hu⟩
            have HX7 := Aside0.mk hx
            have HB7 := Aside0.mk (HB6.out.trans (hu.below hge HB6.out.size))
            clear hx hu HX6 HB6 HC7 hcell l1 l2 l3 hpl
            go_wp2
            go_roundw
            case rel => exact ⟨i + 1, by omega, by go_num, by go_num, ⟨by
              have := HX7.out
              rw [show mid8 t (i + 1) = mid8 t i ++ bars true (lp (b - 48)) by unfold mid8; rw [digs_next, HBD.out]; simp only [List.append_assoc]]
              exact this⟩, HB7⟩
            case measure => simp [intOf]; omega
          · obtain rfl : i = 4 := by omega
            go_wp2_with fail
            refine (pat163 _).mono ?_
            rintro e w6 ⟨A6, c6, rfl, hc6, hC6, hb6⟩
            have HX6 := Aside0.mk (HX.out.below hb6 HX.out.lt)
            have HB6 := Aside0.mk (HB.out.trans (hb6.mono HB.out.size))
            have HC6 := Aside0.mk hC6
            clear hb6 hC6 HX HB
            go_wp2_with fail
            have hpl := mid8_length t HTA.out 4 (by omega)
            refine (appendPat' w6 gt 67 z67 (mid8 t 4) A6 c6 [1, 1, 1] true 64 3 (by rw [hpl]; rfl) rfl HX6.out z67_length (by omega) (by omega) 3 rfl HC6.out hc6 (by decide) (by omega) (by omega)).mono ?_
            rintro e w7 ⟨rfl, hx, hu⟩
            have HX7 := Aside0.mk hx
            have HB7 := Aside0.mk (HB6.out.trans (hu.below hge HB6.out.size))
            clear hx hu HX6 HB6 HC6 hc6 hpl
            go_wp2
            go_ret2
            have hlen := code8_length t HTA.out
            refine ⟨_, rfl, ?_, HB7.out⟩
            have hx' : Blk w7 gt 4 (bools (put z67 (code8 t))).toArray := HX7.out
            rw [put_all _ _ (by rw [hlen, z67_length])] at hx'
            exact Kd.R_mono (R_of_blk hx' hlen (by omega) hge) (fun _ _ => trivial)

set_option maxHeartbeats 4000000 in
set_option maxRecDepth 100000 in
theorem enc8_no (w : World) (mv : Value) (s : ByteArray) (hm : s.size ≤ 2147483647) (h : ∀ t, ¬ Full s 7 t) :
    Calls Tryz.prog 158 #[.agg #[], .string s, mv] w fun e w' => ∃ v x, e = .returned (.tuple #[v, .iface 141 x]) ∧ Below w.heap.size w w' := by
  have hsplit : (∃ (e : (s.size : Int) = 7), ¬ AllDig s 7) ∨ (∃ (e : (s.size : Int) = 8), ¬ AllDig s 7) ∨ (∃ (e : (s.size : Int) = 8), AllDig s 7 ∧ dgt s 7 ≠ chk s 7) ∨ ((s.size : Int) ≠ 7 ∧ (s.size : Int) ≠ 8) := by
    by_cases h7 : (s.size : Int) = 7
    · exact .inl ⟨h7, fun hd => h _ (.inl ⟨by omega, hd, rfl⟩)⟩
    · by_cases h8 : (s.size : Int) = 8
      · by_cases hd : AllDig s 7
        · refine .inr (.inr (.inl ⟨h8, hd, fun hc => h s (.inr ⟨by omega, fun i hi => ?_, hc, rfl⟩)⟩))
          by_cases e : i = 7
          · subst e; rw [hc]; exact (chk_range s 7).2
          · exact hd i (by omega)
        · exact .inr (.inl ⟨h8, hd⟩)
      · exact .inr (.inr (.inr ⟨h7, h8⟩))
  clear h
  rcases hsplit with ⟨hsI, hd⟩ | ⟨hsI, hd⟩ | ⟨hsI, hd, hck⟩ | ⟨h7, h8⟩
  · have HD := Aside0.mk hd
    have HS := Aside0.mk (show s.size = 7 by omega)
    have HFE := methFE
    clear hd
    go_enter Tryz.func158, Tryz.ntmps158
    go_wp2_with fail
    refine (ck160 _ s 7 HS.out (by omega)).mono ?_
    rintro e w1 ⟨hp, hb⟩
    have he : e = .returned (.tuple #[.int .i64 0, .iface 198 (.agg #[.string ⟨#[70, 111, 114, 109, 97, 116, 69, 120, 99, 101, 112, 116, 105, 111, 110]⟩, .nilIface])]) := by
      rcases hp with ⟨h, _⟩ | ⟨_, h⟩
      · exact absurd h HD.out
      · exact h
    subst he
    have HB1 := Aside0.mk ((below_alloc (Below.refl _ w) (.cells #[] 92)).trans (hb.mono (by simp)))
    clear hp hb
    go_wp2_with fail
    refine (errFE _ _).mono ?_
    rintro e w2 ⟨rfl, hb⟩
    have HB2 := Aside0.mk (HB1.out.trans (hb.mono HB1.out.size))
    clear hb HB1
    go_wp2_with (go_at_call 96; refine (newWExc _ _).mono ?_; rintro e w' ⟨x, rfl, hb⟩)
    go_ret2
    exact ⟨_, x, rfl, HB2.out.trans ((below_alloc (Below.refl _ _) _).trans (hb.mono (by simp)) |>.mono HB2.out.size)⟩
  · have HD := Aside0.mk hd
    have HS := Aside0.mk (show s.size = 8 by omega)
    have HFE := methFE
    clear hd
    go_enter Tryz.func158, Tryz.ntmps158
    go_wp2_with fail
    refine (ck161 _ s 7 HS.out (by omega)).mono ?_
    rintro e w1 ⟨hp, hb⟩
    have he : e = .returned (.tuple #[.bool false, .iface 198 (.agg #[.string ⟨#[70, 111, 114, 109, 97, 116, 69, 120, 99, 101, 112, 116, 105, 111, 110]⟩, .nilIface])]) := by
      rcases hp with ⟨h, _⟩ | ⟨_, h⟩
      · exact absurd h HD.out
      · exact h
    subst he
    have HB1 := Aside0.mk ((below_alloc (Below.refl _ w) (.cells #[] 92)).trans (hb.mono (by simp)))
    clear hp hb
    go_wp2_with fail
    refine (errFE _ _).mono ?_
    rintro e w2 ⟨rfl, hb⟩
    have HB2 := Aside0.mk (HB1.out.trans (hb.mono HB1.out.size))
    clear hb HB1
    go_wp2_with (go_at_call 96; refine (newWExc _ _).mono ?_; rintro e w' ⟨x, rfl, hb⟩)
    go_ret2
    exact ⟨_, x, rfl, HB2.out.trans ((below_alloc (Below.refl _ _) _).trans (hb.mono (by simp)) |>.mono HB2.out.size)⟩
  · have HD := Aside0.mk hd
    have HCK := Aside0.mk hck
    have HS := Aside0.mk (show s.size = 8 by omega)
    have HFE := methFE
    clear hd hck
    go_enter Tryz.func158, Tryz.ntmps158
    go_wp2_with fail
    refine (ck161 _ s 7 HS.out (by omega)).mono ?_
    rintro e w1 ⟨hp, hb⟩
    have he : e = .returned (.tuple #[.bool false, .nilIface]) := by
      rcases hp with ⟨_, h⟩ | ⟨h, _⟩
      · rw [h, decide_eq_false HCK.out]
      · exact absurd HD.out h
    subst he
    have HB1 := Aside0.mk ((below_alloc (Below.refl _ w) (.cells #[] 92)).trans (hb.mono (by simp)))
    clear hp hb HFE
    go_wp2_with (go_at_call 96; refine (newWExc _ _).mono ?_; rintro e w' ⟨x, rfl, hb⟩)
    go_ret2
    exact ⟨_, x, rfl, HB1.out.trans ((below_alloc (Below.refl _ _) _).trans (hb.mono (by simp)) |>.mono HB1.out.size)⟩
  · have d1 : ((s.size : Int) == 7) = false := beq_eq_false_iff_ne.2 h7
    have d2 : ((s.size : Int) == 8) = false := beq_eq_false_iff_ne.2 h8
    clear h7 h8
    go_enter Tryz.func158, Tryz.ntmps158
    go_wp2_with (go_at_call 96; refine (newWExc _ _).mono ?_; rintro e w' ⟨x, rfl, hb⟩)
    go_ret2
    exact ⟨_, x, rfl, (below_alloc (below_alloc (Below.refl _ w) (.cells #[] 92)) _).trans (hb.mono (by simp; omega))⟩

def sA4 : ByteArray := ⟨#[65, 65, 65, 65]⟩
set_option maxHeartbeats 4000000 in
set_option maxRecDepth 100000 in
theorem mod8 (w : World) (t : ByteArray) (hts : t.size = 8) (hta : AllDig t 8) :
    Calls Tryz.prog 44 #[.int .i64 6, .string t] w fun e w' => ∃ v, e = .returned v ∧ Kd.R Kd.bool 4 w' w.heap.size (fun _ => True) v (code8 t) ∧ Below w.heap.size w w' := by
  have HTS := Aside0.mk hts
  have HTA := Aside0.mk hta
  have hsi : (t.size : Int) = 8 := by omega
  clear hts hta
  go_enter Tryz.func44, Tryz.ntmps44
  go_wp2_with fail
  refine (bars66 w _ _ ⟨#[49, 49, 49]⟩ [] true (bars true [1, 1, 1]) (by decide +kernel) (by decide) (by simp) (Below.refl _ _) (Kd.R_nil _ _ _ _ _)).mono ?_
  rintro e w1 ⟨v1, rfl, hr1, hb1⟩
  have HR1 := Aside0.mk hr1
  have HB1 := Aside0.mk hb1
  clear hr1 hb1
  go_wp2_with fail
  obtain ⟨lf, hlf⟩ : ∃ x, t.extract 0 4 = x := ⟨_, rfl⟩
  have HLF := Aside0.mk hlf
  have HLS := Aside0.mk (show lf.size = 4 by rw [← hlf, ByteArray.size_extract]; have := HTS.out; omega)
  rw [hlf]
  clear hlf
  go_loopw [5, 52] (fun rv v wr => ∃ i : Nat, i ≤ 4 ∧ v = .int .i64 i ∧ Aside0 (Kd.R Kd.bool 4 wr w.heap.size (fun _ => True) rv (pre8 t i)) ∧ Aside0 (Below w.heap.size w wr)) (fun _ v _ => 4 - (intOf v).toNat)
  case atStart => exact ⟨0, by omega, rfl, ⟨by have := HR1.out; simpa [pre8, digs_] using this⟩, HB1⟩
  case round =>
    obtain ⟨i, hi, rfl, HR, HB⟩ := hrel
    clear HR1 HB1
    by_cases hlt : i < 4
    · have d1 : decide ((i : Int) < 4) = true := decide_eq_true (by omega)
      have hil : i < lf.size := by have := HLS.out; omega
      obtain ⟨b, hb⟩ : ∃ b : Int, ((lf[i]'hil).toNat : Int) = b := ⟨_, rfl⟩
      have hbb : 48 ≤ b ∧ b ≤ 57 ∧ dgt t i = b - 48 := by
        have hit : i < t.size := by have := HTS.out; omega
        obtain ⟨b', h1, h2, h3, h4⟩ := dgt_at t 8 HTS.out HTA.out i (by omega) hit
        have e : b = b' := by
          rw [← hb, ← h1, bt_get lf i hil, bt_get t i hit, ← HLF.out, bt_extract t 4 i (by have := HTS.out; omega) hlt]
        rw [e]; exact ⟨h2, h3, h4⟩
      obtain ⟨hb48, hb57, hbd⟩ := hbb
      have HBD := Aside0.mk hbd
      have hAi : i < sA4.size := by show i < 4; omega
      have hA : ((sA4[i]'hAi).toNat : Int) = 65 := by
        have : ∀ i : Fin 4, ((sA4[i.val]'i.isLt).toNat : Int) = 65 := by decide +kernel
        exact this ⟨i, hlt⟩
      unfold sA4 at hA hAi
      clear hbd
      have hpl : (pre8 t i).length ≤ 900000 := by rw [pre8_length t HTA.out i (by omega)]; omega
      go_wp2_with fail
      go_region_with (go_at_call 68; refine (dig68 w _ _ (pre8 t i) b 65 false (Or.inl ⟨rfl, rfl⟩) (by omega) (by omega) (by assumption) ?side1 ?side2).mono ?_; (case side1 => repeat (first | exact HB.out | apply below_alloc | apply pw_below_drewN | apply below_drew1)); (case side2 => repeat (first | exact HR.out | (with_reducible refine Kd.R_drewN ?_ _) | (with_reducible refine Kd.R_drew ?_))); rintro e w' ⟨v', rfl, hr2, hb2⟩)
      all_goals
        have HR2 := Aside0.mk hr2
        have HB2 := Aside0.mk hb2
        clear hr2 hb2 hpl
        go_wp2
        go_roundw
        case rel => exact ⟨i + 1, by omega, by go_num, ⟨by
          rw [show pre8 t (i + 1) = pre8 t i ++ bars false (lp (b - 48)) by unfold pre8; rw [digs_next, Nat.zero_add, HBD.out]; simp only [List.append_assoc]]
          exact HR2.out⟩, HB2⟩
        case measure => simp [intOf]; omega
    · obtain rfl : i = 4 := by omega
      have hls : (lf.size : Int) = 4 := by have := HLS.out; omega
      go_wp2_with fail
      refine (bars66 w wr _ ⟨#[49, 49, 49, 49, 49]⟩ (pre8 t 4) false (bars false [1, 1, 1, 1, 1]) (by decide +kernel) (by decide) (by rw [pre8_length t HTA.out 4 (by omega)]; omega) HB.out HR.out).mono ?_
      rintro e w2 ⟨v2, rfl, hr2, hb2⟩
      have HR2 := Aside0.mk hr2
      have HB2 := Aside0.mk hb2
      clear hr2 hb2 hlt hi
      go_wp2_with fail
      go_loopw [5, 11] (fun rv v wr => ∃ i : Nat, i ≤ 4 ∧ v = .int .i64 (4 + (i : Int)) ∧ Aside0 (Kd.R Kd.bool 4 wr w.heap.size (fun _ => True) rv (mid8 t i)) ∧ Aside0 (Below w.heap.size w wr)) (fun _ v _ => 8 - (intOf v).toNat)
      case atStart => exact ⟨0, by omega, rfl, ⟨by have := HR2.out; simpa [mid8, digs_] using this⟩, HB2⟩
      case round =>
        clear HR HB
        obtain ⟨i, hi, rfl, HR, HB⟩ := hrel
        clear HR2 HB2
        by_cases hlt : i < 4
        · have d1 : decide (4 + (i : Int) < 8) = true := decide_eq_true (by omega)
          have hit : 4 + i < t.size := by have := HTS.out; omega
          obtain ⟨b, hbt, hb48, hb57, hbd⟩ := dgt_at t 8 HTS.out HTA.out (4 + i) (by omega) hit
          have HBD := Aside0.mk hbd
          clear hbd
          have hpl : (mid8 t i).length ≤ 900000 := by rw [mid8_length t HTA.out i (by omega)]; omega
          go_wp2_with fail
          refine (dig68 w _ _ (mid8 t i) b 67 true (Or.inr ⟨rfl, rfl⟩) (by omega) (by omega) (by assumption) HB.out HR.out).mono ?_
          rintro e w' ⟨v', rfl, hr2, hb2⟩
          have HR2 := Aside0.mk hr2
          have HB2 := Aside0.mk hb2
          clear hr2 hb2 hpl
          go_wp2
          go_roundw
          case rel => exact ⟨i + 1, by omega, by go_num, ⟨by
            rw [show mid8 t (i + 1) = mid8 t i ++ bars true (lp (b - 48)) by unfold mid8; rw [digs_next, HBD.out]; simp only [List.append_assoc]]
            exact HR2.out⟩, HB2⟩
          case measure => simp [intOf]; omega
        · obtain rfl : i = 4 := by omega
          go_wp2_with fail
          refine (bars66 w _ _ ⟨#[49, 49, 49]⟩ (mid8 t 4) true (bars true [1, 1, 1]) (by decide +kernel) (by decide) (by rw [mid8_length t HTA.out 4 (by omega)]; omega) HB.out HR.out).mono ?_
          rintro e w2 ⟨v2, rfl, hr2, hb2⟩
          have HR2 := Aside0.mk hr2
          have HB2 := Aside0.mk hb2
          clear hr2 hb2
          go_wp2
          go_ret
          exact ⟨_, rfl, HR2.out, HB2.out⟩
end Go.Proofs.YthkddnmomjcdaaaGreat.B
