import Derived.Test.YthkddnmomjcdaaaGreatF0
import Derived.Laws.BitsAllLaws
import Derived.Lib.Strings
import Derived.Great.Frames
import Derived.Laws.RangeString
import Derived.Laws.IdiomStrings
namespace Go.Proofs.YthkddnmomjcdaaaGreat.B
open Go.RowKit Go.Proofs.YthkddnmomjcdaaaGreatW.PrintWords Go.Proofs.YthkddnmomjcdaaaGreatW.PrintLast Go.Proofs.YthkddnmomjcdaaaGreatW.PrintMore
set_option linter.unusedVariables false
set_option linter.unusedSimpArgs false

/-- Block g is just the cells cs of element type t, none frozen. -/
def Blk (w : World) (g : Nat) (t : TypeId) (cs : Array Value) : Prop := w.heap[g]? = some (.cells cs t (0, 0))
theorem Blk.cell {w : World} {g : Nat} {t : TypeId} {cs : Array Value} (h : Blk w g t cs) (i : Nat) : w.cell? ⟨g, i, none⟩ = cs[i]? := blk_cell h i
theorem Blk.frozen {w : World} {g : Nat} {t : TypeId} {cs : Array Value} (h : Blk w g t cs) (i : Nat) : w.frozen? ⟨g, i, none⟩ = false := blk_frozen h i
theorem Blk.lt {w : World} {g : Nat} {t : TypeId} {cs : Array Value} (h : Blk w g t cs) : g < w.heap.size := blk_lt h
theorem Blk.ucell {w : World} {g : Nat} {t : TypeId} {k : IntKind} {xs : List Int} (h : Blk w g t (nums k xs).toArray) (i : Int) (h0 : 0 ≤ i) (h1 : i < xs.length) : w.cell? ⟨g, i.toNat, none⟩ = some (.int k (rd xs i)) := by
  rw [h.cell]
  simp [nums, rd, List.getD, List.getElem?_eq_getElem (show i.toNat < xs.length by omega)]
theorem Blk.uset {w : World} {g : Nat} {t : TypeId} {k : IntKind} {xs : List Int} (h : Blk w g t (nums k xs).toArray) (i : Nat) (v : Int) : Blk (w.setCell ⟨g, i, none⟩ (.int k v)) g t (nums k (xs.set i v)).toArray := by
  have := blk_set h i (.int k v)
  unfold Blk
  rw [this]
  simp [nums, List.map_set]
theorem Blk.far {w : World} {g : Nat} {t : TypeId} {cs : Array Value} (h : Blk w g t cs) {p : Addr} (hp : g ≠ p.block) (u : Value) : Blk (w.setCell p u) g t cs := blk_far h hp u
theorem Blk.alloc {w : World} {g : Nat} {t : TypeId} {cs : Array Value} (h : Blk w g t cs) (o : Obj) : Blk (w.alloc o) g t cs := blk_alloc h o
theorem Blk.below {w w' : World} {g : Nat} {t : TypeId} {cs : Array Value} {B : Nat} (h : Blk w g t cs) (hb : Below B w w') (hg : g < B) : Blk w' g t cs := (hb.block g hg).trans h
theorem Blk.new (w : World) (t : TypeId) (cs : Array Value) : Blk (w.alloc (.cells cs t)) w.heap.size t cs := heap_alloc_new w _

theorem run_make_rowN {P : Program} (t e : TypeId) (i : TypeInfo) (z : Value) (ht : P.underlying t = some (.slice e)) (hi : P.info? e = some i) (hz : i.zero = some z)
    (kl kc : IntKind) (n c : Nat) (hnc : n ≤ c) (hbytes : i.bytes * c ≤ 281474976710656) (h63 : c ≤ 9223372036854775807) (w : World) :
    (Instr.makeSlice t (.int kl (n : Int)) (.int kc (c : Int))).run P w = .ok (.slice (some ⟨w.heap.size, 0, none⟩) n c) (w.alloc (.cells (madeCells z.cells (c * i.size)) e)) := by
  have hb : (i.bytes : Int) * (c : Int) ≤ 281474976710656 := by
    have h : ((i.bytes * c : Nat) : Int) ≤ 281474976710656 := by omega
    rwa [Int.natCast_mul] at h
  have hr := run_make (P := P) w t e i z ht hi hz kl kc n c (by omega) (by omega) hb (by omega)
  simp only [Int.toNat_natCast] at hr
  exact hr
/-- make([]uint32, n) -/
theorem make_u32 (n : Nat) (h : n ≤ 1000000000) (w : World) : (Instr.makeSlice 73 (.int .i64 (n : Int)) (.int .i64 (n : Int))).run Tryz.prog w = .ok (.slice (some ⟨w.heap.size, 0, none⟩) n n) (w.alloc (.cells (nums .u32 (List.replicate n 0)).toArray 78)) := by
  obtain ⟨i, hi, hz, hs, hb⟩ := info_parts F.info78
  have := run_make_rowN (P := Tryz.prog) 73 78 i (.int .u32 0) Tryz.underlying73 hi hz .i64 .i64 n n (Nat.le_refl _) (by rw [hb]; omega) (by omega) w
  have e : madeCells (Value.int .u32 0).cells (n * 1) = (nums .u32 (List.replicate n 0)).toArray := by
    apply Array.toList_inj.1
    rw [Nat.mul_one]
    exact (toList_madeCells_one _ _).trans (by simp [nums])
  rw [this, hs, e]

theorem newBM (w : World) (wd ht rs : Int) (N : Nat) (h1 : 1 ≤ wd) (h2 : 1 ≤ ht) (h3 : wd ≤ 100000000) (hrs : (wd + 31) / 32 = rs) (hn : rs * ht = (N : Int)) (hN : N ≤ 1000000000) :
    Calls Tryz.prog 104 #[.int .i64 wd, .int .i64 ht] w fun e w' => e = .returned (.tuple #[.pointer (some ⟨w.heap.size + 1, 0, none⟩), .nilIface]) ∧
      w' = (w.alloc (.cells (nums .u32 (List.replicate N 0)).toArray 78)).alloc (.cells #[.int .i64 wd, .int .i64 ht, .int .i64 rs, .slice (some ⟨w.heap.size, 0, none⟩) N N] 75) := by
  have hmk := make_u32 N hN
  have a1 : ¬ wd < 1 := by omega
  have a2 : ¬ ht < 1 := by omega
  have a3 : wrap64 (rs * ht) = (N : Int) := by rw [hn]; unfold wrap64; omega
  go_enter Tryz.func104, Tryz.ntmps104
  go_wp2
  go_ret2
  exact ⟨rfl, rfl⟩

/-- make of an array of words for so many bits -/
theorem mkArray (w : World) (n : Int) (N : Nat) (h0 : 0 ≤ n) (h1 : n ≤ 100000000) (hN : (n + 31) / 32 = (N : Int)) :
    Calls Tryz.prog 72 #[.int .i64 n] w fun e w' => e = .returned (.slice (some ⟨w.heap.size, 0, none⟩) N N) ∧ w' = w.alloc (.cells (nums .u32 (List.replicate N 0)).toArray 78) := by
  have hmk := make_u32 N (by omega)
  go_enter Tryz.func72, Tryz.ntmps72
  go_wp2
  go_ret
  exact ⟨rfl, rfl⟩

theorem newBA (w : World) (n : Int) (N : Nat) (h0 : 0 ≤ n) (h1 : n ≤ 100000000) (hN : (n + 31) / 32 = (N : Int)) :
    Calls Tryz.prog 59 #[.int .i64 n] w fun e w' => e = .returned (.pointer (some ⟨w.heap.size + 1, 0, none⟩)) ∧
      w' = (w.alloc (.cells (nums .u32 (List.replicate N 0)).toArray 78)).alloc (.cells #[.slice (some ⟨w.heap.size, 0, none⟩) N N, .int .i64 n] 100) := by
  have Hn := Aside0.mk hN
  clear hN
  go_enter Tryz.func59, Tryz.ntmps59
  go_wp2_with (go_at_call 72; refine (mkArray _ _ N h0 h1 Hn.out).mono ?_; rintro e w' ⟨rfl, rfl⟩)
  go_ret
  exact ⟨rfl, rfl⟩

/-- b.bits[i / 32] = v -/
theorem setBulk (w : World) (g gb : Nat) (n : Int) (xs : List Int) (N : Nat) (i v : Int) (hg : Blk w g 100 #[.slice (some ⟨gb, 0, none⟩) N N, .int .i64 n]) (hb : Blk w gb 78 (nums .u32 xs).toArray) (hN : xs.length = N) (hN2 : N ≤ 1000000000) (h0 : 0 ≤ i) (h1 : i / 32 < (N : Int)) :
    Calls Tryz.prog 61 #[.pointer (some ⟨g, 0, none⟩), .int .i64 i, .int .u32 v] w fun e w' => e = .returned (.tuple #[]) ∧ w' = w.setCell ⟨gb, (i / 32).toNat, none⟩ (.int .u32 v) := by
  have c0 := hg.cell 0
  have c1 : w.cell? ⟨gb, (i / 32).toNat, none⟩ = some (.int .u32 (rd xs (i / 32))) := hb.ucell (i / 32) (by omega) (by omega)
  have c2 := hb.frozen (i / 32).toNat
  have b0 : 0 ≤ i / 32 := by omega
  simp only [List.getElem?_toArray, List.getElem?_cons_zero] at c0
  clear hN
  go_enter Tryz.func61, Tryz.ntmps61
  go_wp2
  go_end0
  exact ⟨rfl, rfl⟩

/-- Just the block gb has turned. -/
structure Turn (w w' : World) (gb : Nat) : Prop where
  os : w'.os = w.os
  tape : w'.tape = w.tape
  output : w'.output = w.output
  size : w'.heap.size = w.heap.size
  block : ∀ k, k ≠ gb → w'.heap[k]? = w.heap[k]?
theorem Turn.refl (w : World) (gb : Nat) : Turn w w gb := ⟨rfl, rfl, rfl, rfl, fun _ _ => rfl⟩
theorem Turn.trans {a b c : World} {gb : Nat} (h : Turn a b gb) (k : Turn b c gb) : Turn a c gb := ⟨k.os.trans h.os, k.tape.trans h.tape, k.output.trans h.output, k.size.trans h.size, fun i hi => (k.block i hi).trans (h.block i hi)⟩
theorem Turn.set (w : World) (gb i : Nat) (u : Value) : Turn w (w.setCell ⟨gb, i, none⟩ u) gb := ⟨rfl, rfl, rfl, by simp [World.setCell], fun k hk => Below.heap_setCell w _ u k hk⟩
theorem Turn.blk {w w' : World} {gb g : Nat} {t : TypeId} {cs : Array Value} (h : Turn w w' gb) (hb : Blk w g t cs) (hne : g ≠ gb) : Blk w' g t cs := (h.block g hne).trans hb
theorem Turn.below {w w' : World} {gb B : Nat} (h : Turn w w' gb) (hB : B ≤ gb) : Below B w w' := ⟨h.os, h.tape, h.output, by rw [h.size]; exact Nat.le_refl _, fun k hk => h.block k (by omega)⟩

/-- The bit x of a row of bits from the word o on is set. -/
def orBit (xs : List Int) (o x : Int) : List Int := xs.set (o + x / 32).toNat (Go.bits .or .u32 (rd xs (o + x / 32)) (2 ^ (x % 32).toNat % 4294967296))
def sregX (xs : List Int) (o left : Int) : Nat → List Int
  | 0 => xs
  | n + 1 => orBit (sregX xs o left n) o (left + n)
def sreg (xs : List Int) (rs left : Int) (n : Nat) (top : Int) : Nat → List Int
  | 0 => xs
  | m + 1 => sregX (sreg xs rs left n top m) ((top + m) * rs) left n
theorem orBit_length (xs : List Int) (o x : Int) : (orBit xs o x).length = xs.length := by simp [orBit]
theorem sregX_length (xs : List Int) (o left : Int) (n : Nat) : (sregX xs o left n).length = xs.length := by
  induction n with
  | zero => rfl
  | succ n ih => rw [sregX, orBit_length, ih]
theorem sreg_length (xs : List Int) (rs left : Int) (n : Nat) (top : Int) (m : Nat) : (sreg xs rs left n top m).length = xs.length := by
  induction m with
  | zero => rfl
  | succ m ih => rw [sreg, sregX_length, ih]
theorem sregX_step (xs : List Int) (o left x : Int) (h : left ≤ x) : sregX xs o left (x + 1 - left).toNat = orBit (sregX xs o left (x - left).toNat) o x := by
  rw [show (x + 1 - left).toNat = (x - left).toNat + 1 by omega, sregX, show left + ((x - left).toNat : Int) = x by omega]
theorem sreg_step (xs : List Int) (rs left : Int) (n : Nat) (top y : Int) (h : top ≤ y) : sreg xs rs left n top (y + 1 - top).toNat = sregX (sreg xs rs left n top (y - top).toNat) (y * rs) left n := by
  rw [show (y + 1 - top).toNat = (y - top).toNat + 1 by omega, sreg, show top + ((y - top).toNat : Int) = y by omega]

set_option maxHeartbeats 1000000 in
theorem setRegion (w : World) (g gb : Nat) (wd ht rs left top n m : Int) (xs : List Int) (N : Nat)
    (hg : Blk w g 75 #[.int .i64 wd, .int .i64 ht, .int .i64 rs, .slice (some ⟨gb, 0, none⟩) N N]) (hb : Blk w gb 78 (nums .u32 xs).toArray) (hl : xs.length = N) (hN : N ≤ 1000000000)
    (hrs : (wd + 31) / 32 = rs) (hn : rs * ht = (N : Int)) (h0 : 0 ≤ left) (h1 : 0 ≤ top) (h2 : 1 ≤ n) (h3 : 1 ≤ m) (h4 : left + n ≤ wd) (h5 : top + m ≤ ht) (h6 : wd ≤ 100000000) (h7 : ht ≤ 100000000) :
    Calls Tryz.prog 106 #[.pointer (some ⟨g, 0, none⟩), .int .i64 left, .int .i64 top, .int .i64 n, .int .i64 m] w fun e w' => e = .returned .nilIface ∧
      Blk w' gb 78 (nums .u32 (sreg xs rs left n.toNat top m.toNat)).toArray ∧ Turn w w' gb := by
  have hne : g ≠ gb := blk_ne hg hb (by decide)
  have c0 : w.cell? ⟨g, 0, none⟩ = some (.int .i64 wd) := hg.cell 0
  have c1 : w.cell? ⟨g, 1, none⟩ = some (.int .i64 ht) := hg.cell 1
  have HG := Aside0.mk hg
  have HB := Aside0.mk hb
  have HL := Aside0.mk hl
  have HN := Aside0.mk hn
  have HR := Aside0.mk hrs
  clear hg hb hl hn hrs
  go_enter Tryz.func106, Tryz.ntmps106
  go_wp2
  go_loopw [13] (fun v wr => ∃ y : Int, top ≤ y ∧ y ≤ top + m ∧ v = .int .i64 y ∧ Aside0 (Blk wr gb 78 (nums .u32 (sreg xs rs left n.toNat top (y - top).toNat)).toArray) ∧ Aside0 (Turn w wr gb)) (fun v _ => (top + m - intOf v).toNat)
  case atStart => exact ⟨top, by omega, by omega, rfl, ⟨by rw [show (top - top).toNat = 0 by omega]; exact HB.out⟩, ⟨Turn.refl _ _⟩⟩
  case round =>
    obtain ⟨y, hy1, hy2, rfl, HY, HT⟩ := hrel
    clear c0 c1
    by_cases hlt : y < top + m
    · have hgr := HT.out.blk HG.out hne
      have c2 : wr.cell? ⟨g, 2, none⟩ = some (.int .i64 rs) := hgr.cell 2
      clear hgr
      obtain ⟨o, ho⟩ : ∃ o, y * rs = o := ⟨_, rfl⟩
      have ho1 : 0 ≤ o ∧ o + rs ≤ N := by
        have hr0 : 0 ≤ rs := by have := HR.out; omega
        have hq := HN.out
        have e1 := Int.mul_le_mul_of_nonneg_right (show y + 1 ≤ ht by omega) hr0
        have e2 : (y + 1) * rs = y * rs + rs := by rw [Int.add_mul, Int.one_mul]
        have e3 : ht * rs = rs * ht := Int.mul_comm _ _
        have e4 := Int.mul_nonneg (show 0 ≤ y by omega) hr0
        omega
      obtain ⟨ho1, ho2⟩ := ho1
      have hr0 : 0 ≤ rs := by have := HR.out; omega
      have how : wrap64 (y * rs) = o := by rw [ho]; unfold wrap64; omega
      have HO := Aside0.mk ho
      clear ho
      obtain ⟨ys, hys⟩ : ∃ ys, sreg xs rs left n.toNat top (y - top).toNat = ys := ⟨_, rfl⟩
      have hyl : ys.length = N := by rw [← hys, sreg_length, HL.out]
      rw [hys] at HY
      have HYS := Aside0.mk hys
      have HYL := Aside0.mk hyl
      clear hys hyl
      go_wp2
      obtain ⟨wo, rfl⟩ : ∃ wo : World, wo = wr := ⟨_, rfl⟩
      clear c2
      go_loopw [15] (fun v wi => ∃ x : Int, left ≤ x ∧ x ≤ left + n ∧ v = .int .i64 x ∧ Aside0 (Blk wi gb 78 (nums .u32 (sregX ys o left (x - left).toNat)).toArray) ∧ Aside0 (Turn wo wi gb)) (fun v _ => (left + n - intOf v).toNat)
      case atStart => exact ⟨left, by omega, by omega, rfl, ⟨by rw [show (left - left).toNat = 0 by omega]; exact HY.out⟩, ⟨Turn.refl _ _⟩⟩
      case round =>
        obtain ⟨x, hx1, hx2, rfl, HX, HU⟩ := hrel
        by_cases hlx : x < left + n
        · have hgr := HU.out.blk (HT.out.blk HG.out hne) hne
          have c3 : wr.cell? ⟨g, 3, none⟩ = some (.slice (some ⟨gb, 0, none⟩) N N) := hgr.cell 3
          clear hgr
          obtain ⟨zs, hzs⟩ : ∃ zs, sregX ys o left (x - left).toNat = zs := ⟨_, rfl⟩
          have hzl : zs.length = N := by rw [← hzs, sregX_length, HYL.out]
          rw [hzs] at HX
          have b0 : 0 ≤ o + x / 32 := by omega
          have b1 : o + x / 32 < (N : Int) := by have := HR.out; omega
          have c4 : wr.cell? ⟨gb, (o + x / 32).toNat, none⟩ = some (.int .u32 (rd zs (o + x / 32))) := HX.out.ucell _ b0 (by omega)
          have c5 := HX.out.frozen (o + x / 32).toNat
          have HZ := Aside0.mk hzs
          clear hzs hzl
          go_wp2
          go_roundw
          case rel => exact ⟨x + 1, by omega, by omega, by go_num, ⟨by rw [sregX_step _ _ _ _ hx1, HZ.out]; exact HX.out.uset _ _⟩, ⟨HU.out.trans (Turn.set _ _ _ _)⟩⟩
          case measure => simp [intOf]; omega
        · have : x = left + n := by omega
          subst this
          go_wp2
          go_roundw
          case rel => exact ⟨y + 1, by omega, by omega, by go_num, ⟨by rw [sreg_step _ _ _ _ _ _ hy1, HYS.out, HO.out]; have := HX.out; rwa [show (left + n - left).toNat = n.toNat by omega] at this⟩, ⟨HT.out.trans HU.out⟩⟩
          case measure => simp [intOf]; omega
    · have : y = top + m := by omega
      subst this
      go_wp2
      go_ret
      refine ⟨rfl, ?_, HT.out⟩
      have := HY.out
      rwa [show (top + m - top).toNat = m.toNat by omega] at this

/-- A row of bits as it is copied, word by word. -/
def cpy (xs ys : List Int) (o : Int) : Nat → List Int
  | 0 => ys
  | n + 1 => (cpy xs ys o n).set n (rd xs (o + n))
theorem cpy_length (xs ys : List Int) (o : Int) (n : Nat) : (cpy xs ys o n).length = ys.length := by
  induction n with
  | zero => rfl
  | succ n ih => rw [cpy, List.length_set, ih]

set_option maxHeartbeats 1000000 in
theorem getRow (w : World) (g gb : Nat) (wd ht rs y : Int) (xs : List Int) (N R : Nat)
    (hg : Blk w g 75 #[.int .i64 wd, .int .i64 ht, .int .i64 rs, .slice (some ⟨gb, 0, none⟩) N N]) (hb : Blk w gb 78 (nums .u32 xs).toArray) (hl : xs.length = N) (hN : N ≤ 1000000000)
    (hrs : (wd + 31) / 32 = rs) (hR : rs = (R : Int)) (hn : rs * ht = (N : Int)) (h1 : 0 ≤ y) (h5 : y < ht) (h0 : 0 ≤ wd) (h6 : wd ≤ 100000000) :
    Calls Tryz.prog 31 #[.pointer (some ⟨g, 0, none⟩), .int .i64 y, .pointer none] w fun e w' => e = .returned (.pointer (some ⟨w.heap.size + 1, 0, none⟩)) ∧
      Blk w' w.heap.size 78 (nums .u32 (cpy xs (List.replicate R 0) (y * rs) R)).toArray ∧ Blk w' (w.heap.size + 1) 100 #[.slice (some ⟨w.heap.size, 0, none⟩) R R, .int .i64 wd] ∧ Below w.heap.size w w' ∧ w'.heap.size = w.heap.size + 2 := by
  have c0 : w.cell? ⟨g, 0, none⟩ = some (.int .i64 wd) := hg.cell 0
  have HG := Aside0.mk hg
  have HB := Aside0.mk hb
  have HL := Aside0.mk hl
  have HN := Aside0.mk hn
  have HR := Aside0.mk hrs
  have HR2 := Aside0.mk hR
  clear hg hb hl hn hrs hR
  go_enter Tryz.func31, Tryz.ntmps31
  go_wp2
  go_quiet (fail)
  go_wp2_with fail
  refine (newBA _ _ R h0 h6 (by rw [HR.out, HR2.out])).mono ?_
  rintro e w1 ⟨rfl, hw1⟩
  have hne := blk_ne HG.out HB.out (by decide)
  have hbw : Below w.heap.size w w1 := by rw [hw1]; exact below_alloc (below_alloc (pw_below_drewN (Below.refl _ _) _) _) _
  have bg := HG.out.below hbw HG.out.lt
  have bb := HB.out.below hbw HB.out.lt
  have b1 : Blk w1 w.heap.size 78 (nums .u32 (List.replicate R 0)).toArray := by rw [hw1]; exact Blk.alloc (Blk.new (w.drewN nq) _ _) _
  have b2 : Blk w1 (w.heap.size + 1) 100 #[.slice (some ⟨w.heap.size, 0, none⟩) R R, .int .i64 wd] := by
    rw [hw1]
    have := Blk.new ((w.drewN nq).alloc (.cells (nums .u32 (List.replicate R 0)).toArray 78)) 100 #[.slice (some ⟨w.heap.size, 0, none⟩) R R, .int .i64 wd]
    simpa using this
  have hsz : w1.heap.size = w.heap.size + 2 := by rw [hw1]; simp
  have c2 : w1.cell? ⟨g, 2, none⟩ = some (.int .i64 rs) := bg.cell 2
  clear hw1 c0
  obtain ⟨o, ho⟩ : ∃ o, y * rs = o := ⟨_, rfl⟩
  have hr0 : 0 ≤ rs := by have := HR.out; omega
  have ho1 : 0 ≤ o ∧ o + rs ≤ N := by
    have hq := HN.out
    have e1 := Int.mul_le_mul_of_nonneg_right (show y + 1 ≤ ht by omega) hr0
    have e2 : (y + 1) * rs = y * rs + rs := by rw [Int.add_mul, Int.one_mul]
    have e3 : ht * rs = rs * ht := Int.mul_comm _ _
    have e4 := Int.mul_nonneg h1 hr0
    omega
  obtain ⟨ho1, ho2⟩ := ho1
  have how : wrap64 (y * rs) = o := by rw [ho]; unfold wrap64; omega
  have BG := Aside0.mk bg
  have BB := Aside0.mk bb
  have B1 := Aside0.mk b1
  have B2 := Aside0.mk b2
  have BW := Aside0.mk hbw
  have SZ := Aside0.mk hsz
  have OO := Aside0.mk ho
  clear bg bb b1 b2 hbw hsz ho
  have hlt : g < w.heap.size := HG.out.lt
  have hlt2 : gb < w.heap.size := HB.out.lt
  go_wp2
  simp only [how]
  clear c2 how
  go_loopw [8] (fun v wr => ∃ n : Nat, n ≤ R ∧ v = .int .i64 n ∧ Aside0 (Blk wr w.heap.size 78 (nums .u32 (cpy xs (List.replicate R 0) o n)).toArray) ∧ Aside0 (Turn w1 wr w.heap.size)) (fun v _ => R - (intOf v).toNat)
  case atStart => exact ⟨0, by omega, rfl, B1, ⟨Turn.refl _ _⟩⟩
  case round =>
    obtain ⟨n, hn, rfl, HX, HU⟩ := hrel
    have hRr : (R : Int) = rs := HR2.out.symm
    have hgr := HU.out.blk BG.out (by omega)
    have hbr := HU.out.blk BB.out (by omega)
    have har := HU.out.blk B2.out (by omega)
    have c2 : wr.cell? ⟨g, 2, none⟩ = some (.int .i64 rs) := hgr.cell 2
    have c3 : wr.cell? ⟨g, 3, none⟩ = some (.slice (some ⟨gb, 0, none⟩) N N) := hgr.cell 3
    clear hgr
    have RR := Aside0.mk hRr
    clear hRr
    by_cases hlx : (n : Int) < rs
    · have b0 : 0 ≤ o + (n : Int) := by omega
      have b1 : o + (n : Int) < (N : Int) := by omega
      have c4 : wr.cell? ⟨gb, (o + (n : Int)).toNat, none⟩ = some (.int .u32 (rd xs (o + n))) := hbr.ucell _ b0 (by have := HL.out; omega)
      have HAR := Aside0.mk har
      clear har hbr
      have hw32 : ((n : Int) * 32 / 32).toNat = n := by omega
      have H32 := Aside0.mk hw32
      clear hw32
      go_wp2_with fail
      refine (setBulk wr (w.heap.size + 1) w.heap.size wd _ R ((n : Int) * 32) _ HAR.out HX.out (by rw [cpy_length, List.length_replicate]) (by have := RR.out; omega) (by omega) (by have := RR.out; omega)).mono ?_
      rintro e w2 ⟨rfl, hw2⟩
      rw [H32.out] at hw2
      subst hw2
      go_wp2
      go_roundw
      case rel => exact ⟨n + 1, by have := RR.out; omega, by go_num, ⟨by rw [cpy]; exact HX.out.uset _ _⟩, ⟨HU.out.trans (Turn.set _ _ _ _)⟩⟩
      case measure => simp [intOf]; have := RR.out; omega
    · have : (n : Int) = rs := by have := RR.out; omega
      clear c3
      go_wp2
      go_ret
      refine ⟨rfl, ?_, HU.out.blk B2.out (by omega), BW.out.trans (HU.out.below (Nat.le_refl _)), HU.out.size.trans SZ.out⟩
      have e : n = R := by have := RR.out; omega
      rw [OO.out, ← e]
      exact e ▸ HX.out

theorem Blk.bcell {w : World} {g : Nat} {t : TypeId} {xs : List Bool} (h : Blk w g t (bools xs).toArray) (i : Int) (h0 : 0 ≤ i) (h1 : i < xs.length) : w.cell? ⟨g, i.toNat, none⟩ = some (.bool (rdOf false xs i)) := by
  rw [h.cell]
  simp [bools, rdOf, List.getD, List.getElem?_eq_getElem (show i.toNat < xs.length by omega)]
theorem Blk.bset {w : World} {g : Nat} {t : TypeId} {xs : List Bool} (h : Blk w g t (bools xs).toArray) (i : Nat) (v : Bool) : Blk (w.setCell ⟨g, i, none⟩ (.bool v)) g t (bools (xs.set i v)).toArray := by
  have := blk_set h i (.bool v)
  unfold Blk
  rw [this]
  simp [bools, List.map_set]
theorem make_bool (n : Nat) (h : n ≤ 1000000000) (w : World) : (Instr.makeSlice 27 (.int .i64 (n : Int)) (.int .i64 (n : Int))).run Tryz.prog w = .ok (.slice (some ⟨w.heap.size, 0, none⟩) n n) (w.alloc (.cells (bools (List.replicate n false)).toArray 4)) := by
  obtain ⟨i, hi, hz, hs, hb⟩ := info_parts F.info4
  have := run_make_rowN (P := Tryz.prog) 27 4 i (.bool false) Tryz.underlying27 hi hz .i64 .i64 n n (Nat.le_refl _) (by rw [hb]; omega) (by omega) w
  have e : madeCells (Value.bool false).cells (n * 1) = (bools (List.replicate n false)).toArray := by
    apply Array.toList_inj.1
    rw [Nat.mul_one]
    exact (toList_madeCells_one _ _).trans (by simp [bools])
  rw [this, hs, e]

/-- The bit x of a row of bits. -/
def bitAt (xs : List Int) (x : Int) : Bool := Go.bits .and .u32 (rd xs (x / 32)) (2 ^ (x % 32).toNat % 4294967296) != 0
theorem baSize (w : World) (g gb : Nat) (n : Int) (N : Nat) (hg : Blk w g 100 #[.slice (some ⟨gb, 0, none⟩) N N, .int .i64 n]) :
    Calls Tryz.prog 57 #[.pointer (some ⟨g, 0, none⟩)] w fun e w' => e = .returned (.int .i64 n) ∧ w = w' := by
  have c1 : w.cell? ⟨g, 1, none⟩ = some (.int .i64 n) := hg.cell 1
  go_enter Tryz.func57, Tryz.ntmps57
  go_wp2
  go_ret
  exact ⟨rfl, rfl⟩
theorem baGet (w : World) (g gb : Nat) (n : Int) (xs : List Int) (N : Nat) (i : Int) (hg : Blk w g 100 #[.slice (some ⟨gb, 0, none⟩) N N, .int .i64 n]) (hb : Blk w gb 78 (nums .u32 xs).toArray) (hN : xs.length = N) (hN2 : N ≤ 1000000000) (h0 : 0 ≤ i) (h1 : i / 32 < (N : Int)) :
    Calls Tryz.prog 58 #[.pointer (some ⟨g, 0, none⟩), .int .i64 i] w fun e w' => e = .returned (.bool (bitAt xs i)) ∧ w = w' := by
  have c0 : w.cell? ⟨g, 0, none⟩ = some (.slice (some ⟨gb, 0, none⟩) N N) := hg.cell 0
  have c1 : w.cell? ⟨gb, (i / 32).toNat, none⟩ = some (.int .u32 (rd xs (i / 32))) := hb.ucell (i / 32) (by omega) (by omega)
  have b0 : 0 ≤ i / 32 := by omega
  clear hN
  go_enter Tryz.func58, Tryz.ntmps58
  go_wp2
  go_ret
  exact ⟨rfl, rfl⟩

def unbits (xs : List Int) (n : Nat) : List Bool := (List.range n).map fun (i : Nat) => bitAt xs i
theorem unbits_set (xs : List Int) (n k : Nat) (hk : k < n) : (unbits xs k ++ List.replicate (n - k) false).set k (bitAt xs k) = unbits xs (k + 1) ++ List.replicate (n - (k + 1)) false := by
  have hl : (unbits xs k).length = k := by simp [unbits]
  rw [List.set_append_right _ _ (by omega), hl, Nat.sub_self, show n - k = (n - (k + 1)) + 1 by omega, List.replicate_succ, List.set_cons_zero]
  simp [unbits, List.range_succ]

set_option maxHeartbeats 1000000 in
theorem toBools (w : World) (g gb : Nat) (n : Nat) (xs : List Int) (N : Nat) (hg : Blk w g 100 #[.slice (some ⟨gb, 0, none⟩) N N, .int .i64 n]) (hb : Blk w gb 78 (nums .u32 xs).toArray) (hN : xs.length = N) (hN2 : N ≤ 1000000000) (h1 : n ≤ 100000000) (h2 : ((n : Int) + 31) / 32 = N) :
    Calls Tryz.prog 30 #[.pointer (some ⟨g, 0, none⟩)] w fun e w' => e = .returned (.slice (some ⟨w.heap.size, 0, none⟩) n n) ∧ Blk w' w.heap.size 4 (bools (unbits xs n)).toArray ∧ Below w.heap.size w w' := by
  have hmk := make_bool n (by omega)
  have HG := Aside0.mk hg
  have HB := Aside0.mk hb
  have HN := Aside0.mk hN
  have HH2 := Aside0.mk h2
  clear hg hb hN h2
  have hglt : g < w.heap.size := HG.out.lt
  have hblt : gb < w.heap.size := HB.out.lt
  go_enter Tryz.func30, Tryz.ntmps30
  go_wp2_with fail
  refine (baSize w g gb n N HG.out).mono ?_
  rintro e w' ⟨rfl, rfl⟩
  go_wp2
  clear hmk
  obtain ⟨w1, hw1⟩ : ∃ w1, w.alloc (.cells (bools (List.replicate n false)).toArray 4) = w1 := ⟨_, rfl⟩
  have hbw : Below w.heap.size w w1 := by rw [← hw1]; exact below_alloc (Below.refl _ _) _
  have BM := Aside0.mk (show Blk w1 w.heap.size 4 (bools (List.replicate n false)).toArray by rw [← hw1]; exact Blk.new _ _ _)
  have HBW := Aside0.mk hbw
  clear hbw
  simp only [hw1]
  clear hw1
  go_loopw [10] (fun v wr => ∃ k : Nat, k ≤ n ∧ v = .int .i64 k ∧ Aside0 (Blk wr w.heap.size 4 (bools (unbits xs k ++ List.replicate (n - k) false)).toArray) ∧ Aside0 (Turn w1 wr w.heap.size)) (fun v _ => n - (intOf v).toNat)
  case atStart => exact ⟨0, by omega, rfl, by simpa [unbits] using BM, ⟨Turn.refl _ _⟩⟩
  case round =>
    obtain ⟨k, hk, rfl, HX, HU⟩ := hrel
    by_cases hlx : k < n
    · have hgr := HU.out.blk (HG.out.below HBW.out hglt) (by omega)
      have hbr := HU.out.blk (HB.out.below HBW.out hblt) (by omega)
      have hxl : (unbits xs k ++ List.replicate (n - k) false).length = n := by simp [unbits]; omega
      have c5 := HX.out.frozen k
      have c4 := HX.out.bcell k (by omega) (by omega)
      simp only [Int.toNat_natCast] at c4
      have HGR := Aside0.mk hgr
      have HBR := Aside0.mk hbr
      clear hgr hbr hxl
      go_wp2_with fail
      refine (baGet wr g gb n xs N k HGR.out HBR.out HN.out hN2 (by omega) (by have := HH2.out; omega)).mono ?_
      rintro e w' ⟨rfl, rfl⟩
      go_wp2
      go_roundw
      case rel => exact ⟨k + 1, by omega, by go_num, ⟨by rw [← unbits_set _ _ _ hlx]; exact HX.out.bset _ _⟩, ⟨HU.out.trans (Turn.set _ _ _ _)⟩⟩
      case measure => simp [intOf]; omega
    · have : k = n := by omega
      subst this
      go_wp2
      go_ret
      refine ⟨rfl, ?_, HBW.out.trans (HU.out.below (Nat.le_refl _))⟩
      simpa using HX.out

theorem maxI (w : World) (x y : Int) : Calls Tryz.prog 103 #[.int .i64 x, .int .i64 y] w fun e w' => e = .returned (.int .i64 (if y < x then x else y)) ∧ w = w' := by
  by_cases h : y < x
  · rw [if_pos h]
    have h' : decide (y < x) = true := decide_eq_true h
    go_enter Tryz.func103, Tryz.ntmps103
    go_wp2
    go_ret
    exact ⟨rfl, rfl⟩
  · rw [if_neg h]
    have h' : decide (y < x) = false := decide_eq_false h
    go_enter Tryz.func103, Tryz.ntmps103
    go_wp2
    go_ret
    exact ⟨rfl, rfl⟩

/-- The words of a row of modules, each so many pixels wide. -/
def paint (code : List Bool) (left many : Int) (xs : List Int) : Nat → List Int
  | 0 => xs
  | n + 1 => if rdOf false code n then sreg (paint code left many xs n) (((xs.length : Int))) (left + n * many) many.toNat 0 1 else paint code left many xs n
theorem paint_length (code : List Bool) (left many : Int) (xs : List Int) (n : Nat) : (paint code left many xs n).length = xs.length := by
  induction n with
  | zero => rfl
  | succ n ih =>
    rw [paint]
    split
    · rw [sreg_length, ih]
    · exact ih

set_option maxHeartbeats 2000000 in
theorem render (w : World) (A : Option Addr) (c : Nat) (code : List Bool) (wd mg full out many left rs : Int) (R : Nat)
    (hc : Kd.C Kd.bool w A code.length code) (h0 : 0 < (code.length : Int) + mg) (hm0 : 0 ≤ mg) (hm1 : mg ≤ 1000) (hw0 : 0 ≤ wd) (hw1 : wd ≤ 100000) (hlen : code.length ≤ 100000)
    (hfull : (code.length : Int) + mg = full) (hout : (if full < wd then wd else full) = out) (hmany : out / full = many) (hleft : (out - code.length * many) / 2 = left) (hrs : (out + 31) / 32 = rs) (hR : rs = (R : Int)) :
    Calls Tryz.prog 99 #[.slice A code.length c, .int .i64 wd, .int .i64 1, .int .i64 mg] w fun e w' => e = .returned (.tuple #[.pointer (some ⟨w.heap.size + 1, 0, none⟩), .nilIface]) ∧
      Blk w' w.heap.size 78 (nums .u32 (paint code left many (List.replicate R 0) code.length)).toArray ∧
      Blk w' (w.heap.size + 1) 75 #[.int .i64 out, .int .i64 1, .int .i64 rs, .slice (some ⟨w.heap.size, 0, none⟩) R R] ∧ Below w.heap.size w w' := by
  have e1 : code.length * many ≤ out := by
    rw [← hmany]
    have := Int.mul_ediv_self_le (x := out) (k := full) (by omega)
    have h3 := Int.ediv_nonneg (show 0 ≤ out by split at hout <;> omega) (show 0 ≤ full by omega)
    have h4 := Int.mul_le_mul_of_nonneg_right (show (code.length : Int) ≤ full by omega) h3
    omega
  have ho : full ≤ out ∧ out ≤ 200000 := by split at hout <;> omega
  have hmy : 1 ≤ many := by
    rw [← hmany]
    exact (Int.le_ediv_iff_mul_le (by omega)).2 (by omega)
  have hnn : 0 ≤ (code.length : Int) * many := Int.mul_nonneg (by omega) (by omega)
  have hle : many ≤ 200000 := by
    rw [← hmany]
    exact Int.le_trans (Int.ediv_le_self _ (by omega)) (by omega)
  obtain ⟨lm, hlm⟩ : ∃ lm, (code.length : Int) * many = lm := ⟨_, rfl⟩
  rw [hlm] at e1 hnn hleft
  have q1 : wrap64 ((code.length : Int) * many) = lm := by rw [hlm]; unfold wrap64; omega
  have HC := Aside0.mk hc
  have HL := Aside0.mk hlm
  clear hc hlm
  have HO := Aside0.mk hout
  clear hout
  have hlft : 0 ≤ left ∧ left + lm ≤ out := by omega
  obtain ⟨hl1, hl2⟩ := hlft
  have HF := Aside0.mk hleft
  have HM := Aside0.mk hrs
  have HR := Aside0.mk hR
  clear hR
  go_enter Tryz.func99, Tryz.ntmps99
  go_wp2_with fail
  refine (maxI w wd full).mono ?_
  rintro e w' ⟨rfl, rfl⟩
  rw [HO.out]
  go_wp2_with fail
  refine (maxI w 1 1).mono ?_
  rintro e w' ⟨rfl, rfl⟩
  simp only [show (if (1 : Int) < 1 then (1 : Int) else 1) = 1 from rfl]
  go_wp2_with fail
  refine (newBM w out 1 rs R (by omega) (by omega) (by omega) HM.out (by rw [HR.out]; omega) (by have := HR.out; have := HM.out; omega)).mono ?_
  rintro e w1 ⟨rfl, hw1⟩
  have hbw : Below w.heap.size w w1 := by rw [hw1]; exact below_alloc (below_alloc (Below.refl _ _) _) _
  have b1 : Blk w1 w.heap.size 78 (nums .u32 (List.replicate R 0)).toArray := by rw [hw1]; exact Blk.alloc (Blk.new w _ _) _
  have b2 : Blk w1 (w.heap.size + 1) 75 #[.int .i64 out, .int .i64 1, .int .i64 rs, .slice (some ⟨w.heap.size, 0, none⟩) R R] := by
    rw [hw1]
    have := Blk.new (w.alloc (.cells (nums .u32 (List.replicate R 0)).toArray 78)) 75 #[.int .i64 out, .int .i64 1, .int .i64 rs, .slice (some ⟨w.heap.size, 0, none⟩) R R]
    simpa using this
  have HBW := Aside0.mk hbw
  have B1 := Aside0.mk b1
  have B2 := Aside0.mk b2
  clear hw1 hbw b1 b2
  go_wp2
  go_loopw [18, 19] (fun v u wr => ∃ k : Nat, k ≤ code.length ∧ v = .int .i64 k ∧ u = .int .i64 (left + k * many) ∧ Aside0 (Blk wr w.heap.size 78 (nums .u32 (paint code left many (List.replicate R 0) k)).toArray) ∧ Aside0 (Turn w1 wr w.heap.size)) (fun v _ _ => code.length - (intOf v).toNat)
  case atStart => exact ⟨0, by omega, rfl, by simp, B1, ⟨Turn.refl _ _⟩⟩
  case round =>
    obtain ⟨k, hk, rfl, rfl, HX, HU⟩ := hrel
    by_cases hlx : k < code.length
    · have hlx' : (k : Int) < code.length := by omega
      obtain ⟨ad, rfl, hcell⟩ := Kd.at_bool HC.out (k : Int) (by omega) hlx'
      replace hcell := ((HBW.out.trans (HU.out.below (Nat.le_refl _))).cell (World.block_lt_of_cell? w _ hcell)).trans hcell
      simp only [Int.toNat_natCast] at hcell
      obtain ⟨p, hp⟩ : ∃ p, (k : Int) * many = p := ⟨_, rfl⟩
      have hp1 : 0 ≤ p := by rw [← hp]; exact Int.mul_nonneg (by omega) (by omega)
      have hp2 : p + many ≤ lm := by
        have h1 := Int.mul_le_mul_of_nonneg_right (show (k : Int) + 1 ≤ code.length by omega) (show 0 ≤ many by omega)
        have h2 : ((k : Int) + 1) * many = k * many + many := by rw [Int.add_mul, Int.one_mul]
        have := HL.out
        omega
      have hp3 : left + ((k + 1 : Nat) : Int) * many = left + p + many := by
        have h2 : ((k : Int) + 1) * many = k * many + many := by rw [Int.add_mul, Int.one_mul]
        push_cast
        omega
      have HP := Aside0.mk hp3
      have HPP := Aside0.mk hp
      rw [hp]
      clear hp hp3
      by_cases hb : rdOf false code k = true
      · rw [hb] at hcell
        have HHB := Aside0.mk hb
        clear hb
        have hsz := B1.out.lt
        go_wp2_with fail
        refine (setRegion wr (w.heap.size + 1) w.heap.size out 1 rs (left + p) 0 many 1 _ R (HU.out.blk B2.out (by omega)) HX.out (by rw [paint_length, List.length_replicate]) (by have := HR.out; have := HM.out; omega) HM.out (by rw [HR.out]; omega) (by omega) (by omega) (by omega) (by omega) (by omega) (by omega) (by omega) (by omega)).mono ?_
        rintro e w2 ⟨rfl, hx2, hu2⟩
        have HX2 := Aside0.mk hx2
        have HU2 := Aside0.mk hu2
        clear hx2 hu2
        go_wp2
        go_roundw
        case rel => exact ⟨k + 1, by omega, by go_num, by rw [HP.out], ⟨by rw [paint, if_pos HHB.out, HPP.out, List.length_replicate, ← HR.out]; exact HX2.out⟩, ⟨HU.out.trans HU2.out⟩⟩
        case measure => simp [intOf]; omega
      · have hb' : rdOf false code k = false := by simpa using hb
        rw [hb'] at hcell
        have HHB := Aside0.mk hb'
        clear hb hb'
        go_wp2
        go_roundw
        case rel => exact ⟨k + 1, by omega, by go_num, by rw [HP.out], ⟨by rw [paint, if_neg (by rw [HHB.out]; simp)]; exact HX.out⟩, HU⟩
        case measure => simp [intOf]; omega
    · have : k = code.length := by omega
      subst this
      go_wp2
      go_ret2
      refine ⟨rfl, HX.out, HU.out.blk B2.out (by omega), HBW.out.trans (HU.out.below (Nat.le_refl _))⟩
end Go.Proofs.YthkddnmomjcdaaaGreat.B
namespace Go.Proofs.YthkddnmomjcdaaaGreat.F
open Go.RowKit Go.Proofs.YthkddnmomjcdaaaGreatW.PrintWords Go.Proofs.YthkddnmomjcdaaaGreatW.PrintLast Go.Proofs.YthkddnmomjcdaaaGreatW.PrintMore
attribute [local go_sem] max2_int min2_int max_two min_two max_three min_three max_four min_four   -- for this text's walks alone
set_option linter.unusedVariables false
set_option linter.unusedSimpArgs false

/-! ### gozxing_BarcodeFormats_Contains: function 97 -/
def gozxing_BarcodeFormats_Contains.l0 : Nat → Int → List Int → Int → Int → Option (Bool)
  | 0, _, _, _, _ => none
  | k + 1, x1, x7, x8, x9 => if x9 < x8 then (if 0 ≤ x9 then (if x9 < (x7.length : Int) then (if (rd x7 x9) = x1 then (some true) else (gozxing_BarcodeFormats_Contains.l0 k x1 x7 x8 (wrap64 (x9 + 1)))) else (none)) else (none)) else (some false)
def gozxing_BarcodeFormats_Contains.f (k : Nat) (l0 : List Int) (a1 : Int) : Option (Bool) := gozxing_BarcodeFormats_Contains.l0 k a1 l0 (l0.length : Int) 0
theorem gozxing_BarcodeFormats_Contains.mono_l : ∀ k, (∀ y0 y1 y2 y3, LeO (gozxing_BarcodeFormats_Contains.l0 k y0 y1 y2 y3) (gozxing_BarcodeFormats_Contains.l0 (k + 1) y0 y1 y2 y3))
  | 0 => fun _ _ _ _ r h => by simp [gozxing_BarcodeFormats_Contains.l0] at h
  | k + 1 => by
    have ih0 := gozxing_BarcodeFormats_Contains.mono_l k
    · intro y0 y1 y2 y3
      unfold gozxing_BarcodeFormats_Contains.l0
      repeat' first
      | (with_reducible exact ih0 _ _ _ _)
      | (with_reducible exact LeO.refl _)
      | (with_reducible exact LeO.none _)
      | (with_reducible refine LeO.ite ?_ ?_)
      | (with_reducible refine LeO.bind ?_ (fun _ => ?_))
      | exact ih0 _ _ _ _
      | exact LeO.none _
      | refine LeO.ite ?_ ?_
      | refine LeO.bind ?_ (fun _ => ?_)
theorem gozxing_BarcodeFormats_Contains.mono : ∀ a0 a1 k, LeO (gozxing_BarcodeFormats_Contains.f k a0 a1) (gozxing_BarcodeFormats_Contains.f (k + 1) a0 a1) := by
  intro a0 a1 k
  have ih0 := gozxing_BarcodeFormats_Contains.mono_l k
  unfold gozxing_BarcodeFormats_Contains.f
  repeat' first
      | (with_reducible exact ih0 _ _ _ _)
      | (with_reducible exact LeO.refl _)
      | (with_reducible exact LeO.none _)
      | (with_reducible refine LeO.ite ?_ ?_)
      | (with_reducible refine LeO.bind ?_ (fun _ => ?_))
      | exact ih0 _ _ _ _
      | exact LeO.none _
      | refine LeO.ite ?_ ?_
      | refine LeO.bind ?_ (fun _ => ?_)
set_option maxHeartbeats 8000000 in
set_option maxRecDepth 100000 in
theorem gozxing_BarcodeFormats_Contains.calls (k : Nat) (A0 : Option Addr) (c0 : Nat) (l0 : List Int) (a1 : Int) (r : Bool) (w : World) (hr0 : Kd.C (Kd.int .i64) w A0 l0.length l0) (hc0 : l0.length ≤ c0) (h : gozxing_BarcodeFormats_Contains.f k l0 a1 = some r) :
    Calls Tryz.prog 97 #[.slice A0 l0.length c0, .int .i64 a1] w fun e w' => e = .returned (.bool r) ∧ Drawn0 w w' := by
  have HR0 := Aside0.mk hr0
  have HC0 := Aside0.mk hc0
  clear hr0 hc0
  have H : (gozxing_BarcodeFormats_Contains.l0 k a1 l0 (l0.length : Int) 0) = some r := h
  clear h
  have H' := Aside0.mk H
  clear H
  go_enter Tryz.func97, Tryz.ntmps97
  go_wp2
  go_loopg [9] k (fun kq v9 w' => ∃ (x9_1 : Int), v9 = .int .i64 x9_1 ∧ Aside0 (gozxing_BarcodeFormats_Contains.l0 kq a1 l0 (l0.length : Int) x9_1 = some r) ∧ Aside0 (kq ≤ k) ∧ Drawn0 w w')
  case atStart => exact ⟨(0), (by first | rfl | (simp; done) | (simp [*]; done)), H', ⟨Nat.le_refl _⟩, by repeat (first | exact Drawn0.refl _ | apply Drawn0.step)⟩
  case round =>
    clear H'
    try clear p2
    obtain ⟨x9_1, rfl, HA, HK1, ⟨m1, rfl⟩⟩ := hrel
    cases gk with
    | zero => exact absurd HA.out (by simp [gozxing_BarcodeFormats_Contains.l0])
    | succ k1 =>
      have H := HA.out
      clear HA
      simp only [gozxing_BarcodeFormats_Contains.l0] at H
      by_cases c3 : x9_1 < (l0.length : Int)
      · rw [if_pos c3] at H
        have c3b0 : decide (x9_1 < (l0.length : Int)) = true := decide_eq_true c3
        clear c3
        by_cases c4 : 0 ≤ x9_1
        · rw [if_pos c4] at H
          have c4b0 : decide (0 ≤ x9_1) = true := decide_eq_true c4
          clear c4
          by_cases c5 : x9_1 < (l0.length : Int)
          · rw [if_pos c5] at H
            have c5b0 : decide (x9_1 < (l0.length : Int)) = true := decide_eq_true c5
            clear c5
            by_cases c6 : (rd l0 x9_1) = a1
            · rw [if_pos c6] at H
              have c6b0 : ((rd l0 x9_1) == a1) = true := beq_iff_eq.mpr c6
              have c6b1 : ((rd l0 x9_1) != a1) = false := bne_eq_false_iff_eq.mpr c6
              clear c6
              obtain rfl := Option.some.inj H
              have p943 : 0 ≤ (x9_1 : Int) := of_decide_eq_true (by first | (with_reducible assumption) | assumption)
              have q943 : x9_1 < (l0.length : Int) := of_decide_eq_true (by first | (with_reducible assumption) | assumption)
              obtain ⟨ad943, e943, hx943_0⟩ := Kd.at_int HR0.out x9_1 p943 q943
              cases e943
              replace p943 := eq_true p943
              replace q943 := eq_true q943
              go_wp2
              go_ret
              exact ⟨by first | rfl | (simp; done) | (simp [*]; done), by repeat (first | exact Drawn0.refl _ | apply Drawn0.step)⟩
            · rw [if_neg c6] at H
              have c6b0 : ((rd l0 x9_1) == a1) = false := beq_eq_false_iff_ne.mpr c6
              have c6b1 : ((rd l0 x9_1) != a1) = true := bne_iff_ne.mpr c6
              have H' := Aside0.mk H
              clear H
              have p943 : 0 ≤ (x9_1 : Int) := of_decide_eq_true (by first | (with_reducible assumption) | assumption)
              have q943 : x9_1 < (l0.length : Int) := of_decide_eq_true (by first | (with_reducible assumption) | assumption)
              obtain ⟨ad943, e943, hx943_0⟩ := Kd.at_int HR0.out x9_1 p943 q943
              cases e943
              replace p943 := eq_true p943
              replace q943 := eq_true q943
              go_wp2
              go_roundg k1
              case measure => have := HK1.out; omega
              case rel => exact ⟨(wrap64 (x9_1 + 1)), (by first | rfl | (simp; done) | (simp [*]; done)), H', ⟨by have := HK1.out; omega⟩, by repeat (first | exact Drawn0.refl _ | apply Drawn0.step)⟩
          · rw [if_neg c5] at H
            exact absurd H (by simp)
        · rw [if_neg c4] at H
          exact absurd H (by simp)
      · rw [if_neg c3] at H
        have c3b0 : decide (x9_1 < (l0.length : Int)) = false := decide_eq_false c3
        clear c3
        obtain rfl := Option.some.inj H
        go_wp2
        go_ret
        exact ⟨by first | rfl | (simp; done) | (simp [*]; done), by repeat (first | exact Drawn0.refl _ | apply Drawn0.step)⟩

/-- THE ONE PURE STATEMENT of gozxing_BarcodeFormats_Contains: yours. -/
def gozxing_BarcodeFormats_Contains.Pure : Prop := ∀ (l0 : List Int) (a1 : Int), l0.length ≤ maxLen → l0.length * 8 ≤ 140737488351232 → (∀ x ∈ l0, (Lit.int .i64 x).wf = true) → (Lit.int .i64 a1).wf = true → ∃ k, gozxing_BarcodeFormats_Contains.f k l0 a1 = some true
theorem gozxing_BarcodeFormats_Contains.walk (P : gozxing_BarcodeFormats_Contains.Pure) (a0 : Option Addr) (len0 cap0 : Nat) (z0 : List Int) (a1 : Int) (w : World) (w0 : (a0 = none ∧ len0 = 0 ∧ cap0 = 0 ∧ z0 = []) ∨ ∃ x, a0 = some x ∧ len0 ≤ cap0 ∧ cap0 ≤ maxLen ∧ z0.length = cap0 ∧ (∀ i, i < z0.length → w.cell? (x.add i) = some (.int .i64 (z0.getD i 0))) ∧ ∀ n ∈ z0, (Lit.int .i64 n).wf = true) (y0 : len0 * 8 ≤ 140737488351232) (w1 : (Lit.int .i64 a1).wf = true) :
    Calls Tryz.prog 97 #[.slice a0 len0 cap0, .int .i64 a1] w fun e w' => e = .returned (.bool true) ∧ Below w.heap.size w w' := by
  obtain ⟨l0, rfl, hr0, hm0, hw0, hc0⟩ := ReadsInt.ofRowC w0
  obtain ⟨k, h⟩ := P l0 a1 hm0 y0 hw0 w1
  refine (gozxing_BarcodeFormats_Contains.calls k _ _ l0 a1 true w (Kd.C_of_reads (d := (0 : Int)) (h1 := fun _ => rfl) hr0) hc0 h).mono ?_
  rintro e w' ⟨rfl, hd⟩
  exact ⟨rfl, hd.below⟩
end Go.Proofs.YthkddnmomjcdaaaGreat.F
namespace Go.Proofs.YthkddnmomjcdaaaGreat.B
open Go.RowKit Go.Proofs.YthkddnmomjcdaaaGreatW.PrintWords Go.Proofs.YthkddnmomjcdaaaGreatW.PrintLast Go.Proofs.YthkddnmomjcdaaaGreatW.PrintMore
set_option linter.unusedVariables false
set_option linter.unusedSimpArgs false

/-! ### The map of one entry, and what is asked of it -/
theorem chk_key (em : Bool) (W : World) (x : Value) : (Instr.checkKey em 10000 50 x).run Tryz.prog W = .ok () W := by
  rw [show (10000 : Nat) = 9999 + 1 from rfl, Instr.checkKey]
  simp [run_underlying Tryz.underlying50]
theorem getObj_map (W : World) (r : Nat) (es : Array MapEntry) (c : Nat) (h : W.heap[r]? = some (.map es c)) : (getObj r).run Tryz.prog W = .ok (.map es c) W := by simp [getObj, Sem.run, h]
theorem setObj_map (W : World) (r : Nat) (es : Array MapEntry) (c : Nat) (o : Obj) (h : W.heap[r]? = some (.map es c)) : (setObj r o).run Tryz.prog W = .ok () { W with heap := W.heap.setIfInBounds r o } := by simp [setObj, Sem.run, h]
theorem push_set (h : Array Obj) (x o : Obj) : (h.push x).setIfInBounds h.size o = h.push o := by
  apply Array.toList_inj.1
  simp
theorem run_ins (W : World) (v : Value) : (Instr.mapUpdate 51 (.map (some W.heap.size)) (.int .i64 5) v).run Tryz.prog (W.alloc (.map #[] 0)) = .ok () (W.alloc (.map #[⟨.int .i64 5, v, 0⟩] 1)) := by
  unfold Instr.mapUpdate
  have h : (W.alloc (.map #[] 0)).heap[W.heap.size]? = some (.map #[] 0) := heap_alloc_new W _
  simp only [Sem.run_bind, run_underlying Tryz.underlying51, Result.andThen_ok, getObj_map _ _ _ _ h, chk_key]
  simp only [Instr.findKey, Sem.run_bind, run_underlying Tryz.underlying50, Result.andThen_ok, Instr.findNow, Sem.run_pure]
  rw [setObj_map _ _ _ _ _ h]
  have e : (W.alloc (.map #[] 0)).heap.setIfInBounds W.heap.size (.map #[⟨.int .i64 5, v, 0⟩] 1) = W.heap.push (.map #[⟨.int .i64 5, v, 0⟩] 1) := push_set _ _ _
  exact congrArg (Result.ok ()) (congrArg (fun hp => ({ W with heap := hp } : World)) e)
theorem run_lk (W : World) (gm : Nat) (v : Value) (h : W.heap[gm]? = some (.map #[⟨.int .i64 5, v, 0⟩] 1)) : (Instr.lookup 51 (.map (some gm)) (.int .i64 5) true).run Tryz.prog W = .ok (.tuple #[v, .bool true]) W := by
  unfold Instr.lookup
  simp only [Sem.run_bind, run_underlying Tryz.underlying51, Result.andThen_ok, getObj_map _ _ _ _ h, Sem.run_pure, chk_key]
  simp [Instr.findKey, run_underlying Tryz.underlying50, Instr.findNow, Instr.sameNow]
theorem run_ta (v : Int) (W : World) : (Instr.typeAssert (.iface 3 (.int .i64 v)) 20 3 true).run Tryz.prog W = .ok (.tuple #[.int .i64 v, .bool true]) W := by kernel_rfl

theorem methE (g : Nat) (W : World) : Sem.run Tryz.prog (method 315 85 (.pointer (some ⟨g, 0, none⟩)) "Encode") W = .ok (94, .pointer (some ⟨g, 0, none⟩)) W := by kernel_rfl
theorem newOdw (w : World) (t : TypeId) (x : Value) :
    Calls Tryz.prog 70 #[.iface t x] w fun e w' => e = .returned (.pointer (some ⟨w.heap.size, 0, none⟩)) ∧ w' = w.alloc (.cells #[.iface t x, .int .i64 10] 106) := by
  go_enter Tryz.func70, Tryz.ntmps70
  go_wp2
  go_ret
  exact ⟨rfl, rfl⟩
theorem alloc_set (w : World) (t : TypeId) (cs : Array Value) (i : Nat) (v : Value) : (w.alloc (.cells cs t)).setCell ⟨w.heap.size, i, none⟩ v = w.alloc (.cells (cs.setIfInBounds i v) t) := by
  have e : ((w.alloc (.cells cs t)).setCell ⟨w.heap.size, i, none⟩ v).heap = w.heap.push (.cells (cs.setIfInBounds i v) t) := by
    apply Array.ext_getElem?
    intro k
    by_cases hk : k = w.heap.size
    · subst hk
      have h := blk_set (heap_alloc_new w (.cells cs t)) i v
      simpa using h
    · rw [Below.heap_setCell _ _ _ _ hk]
      by_cases hl : k < w.heap.size
      · rw [Below.heap_alloc _ _ _ hl, Array.getElem?_push]
        simp [hk]
      · have h1 : (w.alloc (.cells cs t)).heap[k]? = none := Array.getElem?_eq_none (by simp; omega)
        rw [h1]
        exact (Array.getElem?_eq_none (by simp; omega)).symm
  exact congrArg (fun hp => ({ w with heap := hp } : World)) e
theorem newUpc (w : World) (t : TypeId) (x : Value) :
    Calls Tryz.prog 71 #[.iface t x] w fun e w' => e = .returned (.pointer (some ⟨w.heap.size, 0, none⟩)) ∧ w' = w.alloc (.cells #[.iface t x, .int .i64 9] 106) := by
  go_enter Tryz.func71, Tryz.ntmps71
  go_wp2_with (go_at_call 70; refine (newOdw _ _ _).mono ?_; rintro e w' ⟨rfl, rfl⟩)
  go_ret
  exact ⟨rfl, by first | rfl | exact alloc_set _ _ _ _ _⟩
theorem newExc (w : World) (s : ByteArray) (v : Value) :
    Calls Tryz.prog 100 #[.string s, v] w fun e w' => e = .returned (.agg #[.string s, .nilIface]) ∧ Below w.heap.size w w' := by
  go_enter Tryz.func100, Tryz.ntmps100
  go_wp2
  exact bodyPost_ret (v := .agg #[.string s, .nilIface]) (by simp [results, Tryz.results100, go_sem]) rfl ⟨rfl, (Below.refl _ _).alloc (Nat.le_refl _) _⟩
theorem newWExc (w : World) (v : Value) :
    Calls Tryz.prog 96 #[v] w fun e w' => ∃ x, e = .returned (.iface 141 x) ∧ Below w.heap.size w w' := by
  go_enter Tryz.func96, Tryz.ntmps96
  go_wp2_with (go_at_call 100; refine (newExc _ _ _).mono ?_; rintro e w' ⟨rfl, hb⟩)
  go_ret
  exact ⟨_, rfl, hb⟩

theorem C_nums {w : World} {g : Nat} {t : TypeId} {k : IntKind} {xs : List Int} (h : Blk w g t (nums k xs).toArray) (hl : xs.length ≤ 9223372036854775807) : Kd.C (Kd.int k) w (some ⟨g, 0, none⟩) xs.length xs := by
  refine Kd.C_of_reads (enc := Value.int k) (d := (0 : Int)) (h1 := fun _ => rfl) ⟨rfl, hl, fun _ => ⟨_, rfl, fun j hj => ?_⟩⟩
  have := h.ucell (j : Int) (by omega) (by omega)
  rw [add_plain]
  simpa [rd] using this
theorem C_bools {w : World} {g : Nat} {t : TypeId} {xs : List Bool} (h : Blk w g t (bools xs).toArray) (hl : xs.length ≤ 9223372036854775807) : Kd.C Kd.bool w (some ⟨g, 0, none⟩) xs.length xs := by
  refine Kd.C_of_reads (enc := Value.bool) (d := false) (h1 := fun _ => rfl) ⟨rfl, hl, fun _ => ⟨_, rfl, fun j hj => ?_⟩⟩
  have := h.bcell (j : Int) (by omega) (by omega)
  rw [add_plain]
  simpa [rdOf] using this
theorem contains1 (w : World) (g : Nat) (n : Int) (h : Blk w g 49 (nums .i64 [n]).toArray) :
    Calls Tryz.prog 97 #[.slice (some ⟨g, 0, none⟩) 1 1, .int .i64 n] w fun e w' => e = .returned (.bool true) ∧ Below w.heap.size w w' := by
  refine (F.gozxing_BarcodeFormats_Contains.calls 3 (some ⟨g, 0, none⟩) 1 [n] n true w (C_nums h (by simp)) (by simp) ?_).mono ?_
  · have e : rd [n] 0 = n := rfl
    simp [F.gozxing_BarcodeFormats_Contains.f, F.gozxing_BarcodeFormats_Contains.l0, e]
  · rintro e w' ⟨rfl, h⟩
    exact ⟨rfl, h.below⟩
end Go.Proofs.YthkddnmomjcdaaaGreat.B
namespace Go.Proofs.YthkddnmomjcdaaaGreat.F
open Go.RowKit Go.Proofs.YthkddnmomjcdaaaGreatW.PrintWords Go.Proofs.YthkddnmomjcdaaaGreatW.PrintLast Go.Proofs.YthkddnmomjcdaaaGreatW.PrintMore
attribute [local go_sem] max2_int min2_int max_two min_two max_three min_three max_four min_four   -- for this text's walks alone
set_option linter.unusedVariables false
set_option linter.unusedSimpArgs false

/-! ### spec_BISameBits: function 16 -/
def spec_BISameBits.l0 : Nat → List Bool → List Bool → Int → Option (Bool)
  | 0, _, _, _ => none
  | k + 1, x0, x1, x5 => if x5 < (x0.length : Int) then (if 0 ≤ x5 then (if x5 < (x1.length : Int) then (if ((rdOf false x0 x5) != (rdOf false x1 x5)) = true then (some false) else (spec_BISameBits.l0 k x0 x1 (wrap64 (x5 + 1)))) else (none)) else (none)) else (some true)
def spec_BISameBits.f (k : Nat) (l0 : List Bool) (l1 : List Bool) : Option (Bool) := if (l0.length : Int) = (l1.length : Int) then (spec_BISameBits.l0 k l0 l1 0) else (some false)
theorem spec_BISameBits.mono_l : ∀ k, (∀ y0 y1 y2, LeO (spec_BISameBits.l0 k y0 y1 y2) (spec_BISameBits.l0 (k + 1) y0 y1 y2))
  | 0 => fun _ _ _ r h => by simp [spec_BISameBits.l0] at h
  | k + 1 => by
    have ih0 := spec_BISameBits.mono_l k
    · intro y0 y1 y2
      unfold spec_BISameBits.l0
      repeat' first
      | (with_reducible exact ih0 _ _ _)
      | (with_reducible exact LeO.refl _)
      | (with_reducible exact LeO.none _)
      | (with_reducible refine LeO.ite ?_ ?_)
      | (with_reducible refine LeO.bind ?_ (fun _ => ?_))
      | exact ih0 _ _ _
      | exact LeO.none _
      | refine LeO.ite ?_ ?_
      | refine LeO.bind ?_ (fun _ => ?_)
theorem spec_BISameBits.mono : ∀ a0 a1 k, LeO (spec_BISameBits.f k a0 a1) (spec_BISameBits.f (k + 1) a0 a1) := by
  intro a0 a1 k
  have ih0 := spec_BISameBits.mono_l k
  unfold spec_BISameBits.f
  repeat' first
      | (with_reducible exact ih0 _ _ _)
      | (with_reducible exact LeO.refl _)
      | (with_reducible exact LeO.none _)
      | (with_reducible refine LeO.ite ?_ ?_)
      | (with_reducible refine LeO.bind ?_ (fun _ => ?_))
      | exact ih0 _ _ _
      | exact LeO.none _
      | refine LeO.ite ?_ ?_
      | refine LeO.bind ?_ (fun _ => ?_)
set_option maxHeartbeats 8000000 in
set_option maxRecDepth 100000 in
theorem spec_BISameBits.calls (k : Nat) (A0 : Option Addr) (c0 : Nat) (l0 : List Bool) (A1 : Option Addr) (c1 : Nat) (l1 : List Bool) (r : Bool) (w : World) (hr0 : Kd.C Kd.bool w A0 l0.length l0) (hc0 : l0.length ≤ c0) (hr1 : Kd.C Kd.bool w A1 l1.length l1) (hc1 : l1.length ≤ c1) (h : spec_BISameBits.f k l0 l1 = some r) :
    Calls Tryz.prog 16 #[.slice A0 l0.length c0, .slice A1 l1.length c1] w fun e w' => e = .returned (.bool r) ∧ Drawn0 w w' := by
  have HR0 := Aside0.mk hr0
  have HC0 := Aside0.mk hc0
  clear hr0 hc0
  have HR1 := Aside0.mk hr1
  have HC1 := Aside0.mk hc1
  clear hr1 hc1
  have H : (if (l0.length : Int) = (l1.length : Int) then (spec_BISameBits.l0 k l0 l1 0) else (some false)) = some r := h
  clear h
  by_cases c3 : (l0.length : Int) = (l1.length : Int)
  · rw [if_pos c3] at H
    have c3b0 : ((l0.length : Int) == (l1.length : Int)) = true := beq_iff_eq.mpr c3
    have c3b1 : ((l0.length : Int) != (l1.length : Int)) = false := bne_eq_false_iff_eq.mpr c3
    have c3b2 : (l0.length == l1.length) = true := by first | simpa using c3 | (simp at c3 ⊢; omega)
    clear c3
    have H' := Aside0.mk H
    clear H
    go_enter Tryz.func16, Tryz.ntmps16
    go_wp2
    repeat (go_quiet (fail); try go_wp2)
    go_loopg [5] k (fun kq v5 w' => ∃ (x5_1 : Int), v5 = .int .i64 x5_1 ∧ Aside0 (spec_BISameBits.l0 kq l0 l1 x5_1 = some r) ∧ Aside0 (kq ≤ k) ∧ Drawn0 w w')
    case atStart => exact ⟨(0), (by first | rfl | (simp; done) | (simp [*]; done)), H', ⟨Nat.le_refl _⟩, by repeat (first | exact Drawn0.refl _ | apply Drawn0.step)⟩
    case round =>
      clear H'
      try clear c1
      try clear p2
      try clear c3
      try clear c3b0
      try clear c3b1
      try clear c3b2
      obtain ⟨x5_1, rfl, HA, HK1, ⟨m1, rfl⟩⟩ := hrel
      cases gk with
      | zero => exact absurd HA.out (by simp [spec_BISameBits.l0])
      | succ k1 =>
        have H := HA.out
        clear HA
        simp only [spec_BISameBits.l0] at H
        by_cases c4 : x5_1 < (l0.length : Int)
        · rw [if_pos c4] at H
          have c4b0 : decide (x5_1 < (l0.length : Int)) = true := decide_eq_true c4
          clear c4
          by_cases c5 : 0 ≤ x5_1
          · rw [if_pos c5] at H
            have c5b0 : decide (0 ≤ x5_1) = true := decide_eq_true c5
            clear c5
            by_cases c6 : x5_1 < (l1.length : Int)
            · rw [if_pos c6] at H
              have c6b0 : decide (x5_1 < (l1.length : Int)) = true := decide_eq_true c6
              clear c6
              by_cases c7 : ((rdOf false l0 x5_1) != (rdOf false l1 x5_1)) = true
              · rw [if_pos c7] at H
                have c7b0 : ((rdOf false l0 x5_1) != (rdOf false l1 x5_1)) = true := c7
                (try (have c7b1 : decide ((rdOf false l0 x5_1) = (rdOf false l1 x5_1)) = false := by simpa using c7))
                (try (have c7b2 : ((rdOf false l0 x5_1) == (rdOf false l1 x5_1)) = false := by simpa using c7))
                (try (have c7b3 : ¬ ((rdOf false l0 x5_1) = (rdOf false l1 x5_1)) := by simpa using c7))
                clear c7
                obtain rfl := Option.some.inj H
                have p121 : 0 ≤ (x5_1 : Int) := of_decide_eq_true (by first | (with_reducible assumption) | assumption)
                have q121 : x5_1 < (l0.length : Int) := of_decide_eq_true (by first | (with_reducible assumption) | assumption)
                obtain ⟨ad121, e121, hx121_0⟩ := Kd.at_bool HR0.out x5_1 p121 q121
                cases e121
                replace p121 := eq_true p121
                replace q121 := eq_true q121
                have p122 : 0 ≤ (x5_1 : Int) := of_decide_eq_true (by first | (with_reducible assumption) | assumption)
                have q122 : x5_1 < (l1.length : Int) := of_decide_eq_true (by first | (with_reducible assumption) | assumption)
                obtain ⟨ad122, e122, hx122_0⟩ := Kd.at_bool HR1.out x5_1 p122 q122
                cases e122
                replace p122 := eq_true p122
                replace q122 := eq_true q122
                go_wp2
                repeat (go_quiet (fail); try go_wp2)
                go_ret
                exact ⟨by first | rfl | (simp; done) | (simp [*]; done), by repeat (first | exact Drawn0.refl _ | apply Drawn0.step)⟩
              · rw [if_neg c7] at H
                have c7b0 : ((rdOf false l0 x5_1) != (rdOf false l1 x5_1)) = false := by simpa using c7
                (try (have c7b1 : decide ((rdOf false l0 x5_1) = (rdOf false l1 x5_1)) = true := by simpa using c7))
                (try (have c7b2 : ((rdOf false l0 x5_1) == (rdOf false l1 x5_1)) = true := by simpa using c7))
                clear c7
                have H' := Aside0.mk H
                clear H
                have p121 : 0 ≤ (x5_1 : Int) := of_decide_eq_true (by first | (with_reducible assumption) | assumption)
                have q121 : x5_1 < (l0.length : Int) := of_decide_eq_true (by first | (with_reducible assumption) | assumption)
                obtain ⟨ad121, e121, hx121_0⟩ := Kd.at_bool HR0.out x5_1 p121 q121
                cases e121
                replace p121 := eq_true p121
                replace q121 := eq_true q121
                have p122 : 0 ≤ (x5_1 : Int) := of_decide_eq_true (by first | (with_reducible assumption) | assumption)
                have q122 : x5_1 < (l1.length : Int) := of_decide_eq_true (by first | (with_reducible assumption) | assumption)
                obtain ⟨ad122, e122, hx122_0⟩ := Kd.at_bool HR1.out x5_1 p122 q122
                cases e122
                replace p122 := eq_true p122
                replace q122 := eq_true q122
                go_wp2
                repeat (go_quiet (fail); try go_wp2)
                go_roundg k1
                case measure => have := HK1.out; omega
                case rel => exact ⟨(wrap64 (x5_1 + 1)), (by first | rfl | (simp; done) | (simp [*]; done)), H', ⟨by have := HK1.out; omega⟩, by repeat (first | exact Drawn0.refl _ | apply Drawn0.step)⟩
            · rw [if_neg c6] at H
              exact absurd H (by simp)
          · rw [if_neg c5] at H
            exact absurd H (by simp)
        · rw [if_neg c4] at H
          have c4b0 : decide (x5_1 < (l0.length : Int)) = false := decide_eq_false c4
          clear c4
          obtain rfl := Option.some.inj H
          go_wp2
          repeat (go_quiet (fail); try go_wp2)
          go_ret
          exact ⟨by first | rfl | (simp; done) | (simp [*]; done), by repeat (first | exact Drawn0.refl _ | apply Drawn0.step)⟩
  · rw [if_neg c3] at H
    have c3b0 : ((l0.length : Int) == (l1.length : Int)) = false := beq_eq_false_iff_ne.mpr c3
    have c3b1 : ((l0.length : Int) != (l1.length : Int)) = true := bne_iff_ne.mpr c3
    have c3b2 : (l0.length == l1.length) = false := by first | simpa using c3 | (simp at c3 ⊢; omega)
    obtain rfl := Option.some.inj H
    go_enter Tryz.func16, Tryz.ntmps16
    go_wp2
    repeat (go_quiet (fail); try go_wp2)
    go_ret
    exact ⟨by first | rfl | (simp; done) | (simp [*]; done), by repeat (first | exact Drawn0.refl _ | apply Drawn0.step)⟩

/-! ### spec_ODRow: function 17 -/
mutual
def spec_ODRow.l0 : Nat → List Bool → List Bool → Int → Int → Int → Option (List Bool)
  | 0, _, _, _, _, _ => none
  | k + 1, x0, x9, x10, x11, x12 => if x12 < (x0.length : Int) then (spec_ODRow.l1 k x0 x9 x10 x11 x12 0) else (some x9)
def spec_ODRow.l1 : Nat → List Bool → List Bool → Int → Int → Int → Int → Option (List Bool)
  | 0, _, _, _, _, _, _ => none
  | k + 1, x0, x9, x10, x11, x12, x13 => if x13 < x10 then (if 0 ≤ x12 then (if x12 < (x0.length : Int) then (if 0 ≤ (wrap64 ((wrap64 (x11 + (wrap64 (x12 * x10)))) + x13)) then (if (wrap64 ((wrap64 (x11 + (wrap64 (x12 * x10)))) + x13)) < (x9.length : Int) then (spec_ODRow.l1 k x0 (x9.set ((wrap64 ((wrap64 (x11 + (wrap64 (x12 * x10)))) + x13)) : Int).toNat (rdOf false x0 x12)) x10 x11 x12 (wrap64 (x13 + 1))) else (none)) else (none)) else (none)) else (none)) else (spec_ODRow.l0 k x0 x9 x10 x11 (wrap64 (x12 + 1)))
end
def spec_ODRow.f (k : Nat) (l0 : List Bool) (a1 : Int) (a2 : Int) : Option (List Bool) := if 0 ≤ (mx a1 (wrap64 ((l0.length : Int) + a2))) then (if (mx a1 (wrap64 ((l0.length : Int) + a2)) : Int).toNat ≤ 281474976710656 then (if (wrap64 ((l0.length : Int) + a2)) = 0 then (none) else (spec_ODRow.l0 k l0 (List.replicate (mx a1 (wrap64 ((l0.length : Int) + a2)) : Int).toNat false) (wrap64 (Int.tdiv (mx a1 (wrap64 ((l0.length : Int) + a2))) (wrap64 ((l0.length : Int) + a2)))) (wrap64 (Int.tdiv (wrap64 ((mx a1 (wrap64 ((l0.length : Int) + a2))) - (wrap64 ((l0.length : Int) * (wrap64 (Int.tdiv (mx a1 (wrap64 ((l0.length : Int) + a2))) (wrap64 ((l0.length : Int) + a2)))))))) 2)) 0)) else (none)) else (none)
theorem spec_ODRow.mono_l : ∀ k, (∀ y0 y1 y2 y3 y4, LeO (spec_ODRow.l0 k y0 y1 y2 y3 y4) (spec_ODRow.l0 (k + 1) y0 y1 y2 y3 y4)) ∧ (∀ y0 y1 y2 y3 y4 y5, LeO (spec_ODRow.l1 k y0 y1 y2 y3 y4 y5) (spec_ODRow.l1 (k + 1) y0 y1 y2 y3 y4 y5))
  | 0 => ⟨fun _ _ _ _ _ r h => by simp [spec_ODRow.l0] at h, fun _ _ _ _ _ _ r h => by simp [spec_ODRow.l1] at h⟩
  | k + 1 => by
    obtain ⟨ih0, ih1⟩ := spec_ODRow.mono_l k
    refine ⟨?_, ?_⟩
    · intro y0 y1 y2 y3 y4
      unfold spec_ODRow.l0
      repeat' first
      | (with_reducible exact ih0 _ _ _ _ _)
      | (with_reducible exact ih1 _ _ _ _ _ _)
      | (with_reducible exact LeO.refl _)
      | (with_reducible exact LeO.none _)
      | (with_reducible refine LeO.ite ?_ ?_)
      | (with_reducible refine LeO.bind ?_ (fun _ => ?_))
      | exact ih0 _ _ _ _ _
      | exact ih1 _ _ _ _ _ _
      | exact LeO.none _
      | refine LeO.ite ?_ ?_
      | refine LeO.bind ?_ (fun _ => ?_)
    · intro y0 y1 y2 y3 y4 y5
      unfold spec_ODRow.l1
      repeat' first
      | (with_reducible exact ih0 _ _ _ _ _)
      | (with_reducible exact ih1 _ _ _ _ _ _)
      | (with_reducible exact LeO.refl _)
      | (with_reducible exact LeO.none _)
      | (with_reducible refine LeO.ite ?_ ?_)
      | (with_reducible refine LeO.bind ?_ (fun _ => ?_))
      | exact ih0 _ _ _ _ _
      | exact ih1 _ _ _ _ _ _
      | exact LeO.none _
      | refine LeO.ite ?_ ?_
      | refine LeO.bind ?_ (fun _ => ?_)
theorem spec_ODRow.mono : ∀ a0 a1 a2 k, LeO (spec_ODRow.f k a0 a1 a2) (spec_ODRow.f (k + 1) a0 a1 a2) := by
  intro a0 a1 a2 k
  obtain ⟨ih0, ih1⟩ := spec_ODRow.mono_l k
  unfold spec_ODRow.f
  repeat' first
      | (with_reducible exact ih0 _ _ _ _ _)
      | (with_reducible exact ih1 _ _ _ _ _ _)
      | (with_reducible exact LeO.refl _)
      | (with_reducible exact LeO.none _)
      | (with_reducible refine LeO.ite ?_ ?_)
      | (with_reducible refine LeO.bind ?_ (fun _ => ?_))
      | exact ih0 _ _ _ _ _
      | exact ih1 _ _ _ _ _ _
      | exact LeO.none _
      | refine LeO.ite ?_ ?_
      | refine LeO.bind ?_ (fun _ => ?_)
set_option maxHeartbeats 8000000 in
set_option maxRecDepth 100000 in
theorem spec_ODRow.calls (k : Nat) (A0 : Option Addr) (c0 : Nat) (l0 : List Bool) (a1 : Int) (a2 : Int) (r : List Bool) (w : World) (hr0 : Kd.C Kd.bool w A0 l0.length l0) (hc0 : l0.length ≤ c0) (h : spec_ODRow.f k l0 a1 a2 = some r) :
    Calls Tryz.prog 17 #[.slice A0 l0.length c0, .int .i64 a1, .int .i64 a2] w fun e w' => ∃ v0_ : Value, e = .returned (v0_) ∧ Kd.R Kd.bool 4 w' w.heap.size (fun _ => True) v0_ r ∧ Below w.heap.size w w' := by
  have HR0 := Aside0.mk hr0
  have HC0 := Aside0.mk hc0
  clear hr0 hc0
  have HB := Aside0.mk (Below.refl w.heap.size w)
  have H : (if 0 ≤ (mx a1 (wrap64 ((l0.length : Int) + a2))) then (if (mx a1 (wrap64 ((l0.length : Int) + a2)) : Int).toNat ≤ 281474976710656 then (if (wrap64 ((l0.length : Int) + a2)) = 0 then (none) else (spec_ODRow.l0 k l0 (List.replicate (mx a1 (wrap64 ((l0.length : Int) + a2)) : Int).toNat false) (wrap64 (Int.tdiv (mx a1 (wrap64 ((l0.length : Int) + a2))) (wrap64 ((l0.length : Int) + a2)))) (wrap64 (Int.tdiv (wrap64 ((mx a1 (wrap64 ((l0.length : Int) + a2))) - (wrap64 ((l0.length : Int) * (wrap64 (Int.tdiv (mx a1 (wrap64 ((l0.length : Int) + a2))) (wrap64 ((l0.length : Int) + a2)))))))) 2)) 0)) else (none)) else (none)) = some r := h
  clear h
  obtain ⟨ji4, hji4⟩ : ∃ j_ : Int, (mx a1 (wrap64 ((l0.length : Int) + a2))) = j_ := ⟨_, rfl⟩
  replace H : (if 0 ≤ (ji4) then (if (ji4 : Int).toNat ≤ 281474976710656 then (if (wrap64 ((l0.length : Int) + a2)) = 0 then (none) else (spec_ODRow.l0 k l0 (List.replicate (ji4 : Int).toNat false) (wrap64 (Int.tdiv (ji4) (wrap64 ((l0.length : Int) + a2)))) (wrap64 (Int.tdiv (wrap64 ((ji4) - (wrap64 ((l0.length : Int) * (wrap64 (Int.tdiv (ji4) (wrap64 ((l0.length : Int) + a2)))))))) 2)) 0)) else (none)) else (none)) = some r := by first | (rw [hji4] at H; exact H) | (simp only [hji4] at H ⊢; exact H)
  have hji4_ : (if a1 < (wrap64 ((l0.length : Int) + a2)) then (wrap64 ((l0.length : Int) + a2)) else a1) = ji4 := hji4
  by_cases c5 : 0 ≤ (ji4)
  · rw [if_pos c5] at H
    have c5b0 := eq_true c5
    have c5b1 : decide (0 ≤ (ji4)) = true := decide_eq_true c5
    clear c5
    by_cases c6 : (ji4 : Int).toNat ≤ 281474976710656
    · rw [if_pos c6] at H
      have c6b0 := eq_true c6
      have c6b1 : decide ((ji4 : Int).toNat ≤ 281474976710656) = true := decide_eq_true c6
      clear c6
      obtain ⟨y123, hy123⟩ : ∃ y_ : List Bool, y_ = (List.replicate (ji4 : Int).toNat false) := ⟨_, rfl⟩
      replace H : (if (wrap64 ((l0.length : Int) + a2)) = 0 then (none) else (spec_ODRow.l0 k l0 y123 (wrap64 (Int.tdiv (ji4) (wrap64 ((l0.length : Int) + a2)))) (wrap64 (Int.tdiv (wrap64 ((ji4) - (wrap64 ((l0.length : Int) * (wrap64 (Int.tdiv (ji4) (wrap64 ((l0.length : Int) + a2)))))))) 2)) 0)) = some r := by first | (rw [hy123]; with_reducible exact H) | (have H2_ := (Option.bind_some _ _).symm.trans H; rw [hy123]; with_reducible exact H2_) | (have H2_ := (Option.bind_some _ _).symm.trans H; with_reducible exact H2_) | with_reducible exact H | (rw [hy123]; exact H) | exact H
      have Ny123 := Aside0.mk hy123
      clear hy123
      by_cases c7 : (wrap64 ((l0.length : Int) + a2)) = 0
      · rw [if_pos c7] at H
        exact absurd H (by simp)
      · rw [if_neg c7] at H
        have c7b0 : ((wrap64 ((l0.length : Int) + a2)) == 0) = false := beq_eq_false_iff_ne.mpr c7
        have c7b1 : ((wrap64 ((l0.length : Int) + a2)) != 0) = true := bne_iff_ne.mpr c7
        have H' := Aside0.mk H
        clear H
        go_enter Tryz.func17, Tryz.ntmps17
        go_wp2_with (first | ((with_reducible refine gate_dst (N := 22) rfl ?_); refine Kd.R_make Kd.bool _ 4 rfl (N := 22) rfl 27 _ _ rfl ji4 rfl rfl Tryz.underlying27 (.bool false) 1 info4 rfl (by decide) (by omega) false (ok := fun _ => True) (okp := fun _ => True) rfl (fun _ hk => hk) trivial (of_decide_eq_true (by first | (with_reducible assumption) | assumption)) (Nat.le_trans (Nat.mul_le_mul_right _ (of_decide_eq_true (by first | (with_reducible assumption) | assumption) : ji4.toNat ≤ 281474976710656)) (by omega)) (Below.refl _ _) (Nat.le_refl _) ?_; intro v124 w8 ho9 hb hg_ hnew_; clear hg_ hnew_; (first | rw [← Ny123.out] at ho9 | (simp only [Int.reduceToNat] at ho9; rw [← Ny123.out] at ho9)); have n0_ := Aside0.mk (Kd.R_lower ho9 (below_size (by repeat (first | (with_reducible first | exact HB.out | apply below_alloc | apply pw_below_drewN | apply below_drew1) | exact HB.out)))); have n1_ := Aside0.mk (below_step (by repeat (first | (with_reducible first | exact HB.out | apply below_alloc | apply pw_below_drewN | apply below_drew1) | exact HB.out)) hb); clear HB; have HO125 := n0_; have HB := n1_; clear n0_ n1_; clear hb ho9))
        go_loopg [12] k (fun kq v12 w' => ∃ (x9_1 : List Bool) (x12_1 : Int), v12 = .int .i64 x12_1 ∧ Aside0 (spec_ODRow.l0 kq l0 x9_1 (wrap64 (Int.tdiv (ji4) (wrap64 ((l0.length : Int) + a2)))) (wrap64 (Int.tdiv (wrap64 ((ji4) - (wrap64 ((l0.length : Int) * (wrap64 (Int.tdiv (ji4) (wrap64 ((l0.length : Int) + a2)))))))) 2)) x12_1 = some r) ∧ Aside0 (kq ≤ k) ∧ Aside0 (Kd.R Kd.bool 4 w' w.heap.size (fun _ => True) v124 x9_1) ∧ Aside0 (Below w.heap.size w w'))
        case atStart => exact ⟨(y123), (0), (by first | rfl | (simp; done) | (simp [*]; done)), H', ⟨Nat.le_refl _⟩, ⟨by (with_reducible repeat (first | apply Kd.R_alloc | apply Kd.R_drewN | apply Kd.R_drew)); exact HO125.out⟩, ⟨by repeat (first | (with_reducible first | exact HB.out | apply below_alloc | apply pw_below_drewN | apply below_drew1) | exact HB.out)⟩⟩
        case round =>
          clear H'
          try clear c1
          try clear p2
          try clear c5
          try clear c5b0
          try clear c5b1
          try clear c6
          try clear c6b0
          try clear c6b1
          try clear p6
          try clear c7
          try clear c7b0
          try clear c7b1
          obtain ⟨x9_1, x12_1, rfl, HA, HK1, HO_9, HB⟩ := hrel
          cases gk with
          | zero => exact absurd HA.out (by simp [spec_ODRow.l0])
          | succ k1 =>
            have H := HA.out
            clear HA
            simp only [spec_ODRow.l0] at H
            by_cases c10 : x12_1 < (l0.length : Int)
            · rw [if_pos c10] at H
              have c10b0 : decide (x12_1 < (l0.length : Int)) = true := decide_eq_true c10
              clear c10
              have H' := Aside0.mk H
              clear H
              go_wp2
              go_loopg [13] k1 (fun kq v13 w' => ∃ (x9_2 : List Bool) (x13_2 : Int), v13 = .int .i64 x13_2 ∧ Aside0 (spec_ODRow.l1 kq l0 x9_2 (wrap64 (Int.tdiv (ji4) (wrap64 ((l0.length : Int) + a2)))) (wrap64 (Int.tdiv (wrap64 ((ji4) - (wrap64 ((l0.length : Int) * (wrap64 (Int.tdiv (ji4) (wrap64 ((l0.length : Int) + a2)))))))) 2)) x12_1 x13_2 = some r) ∧ Aside0 (kq ≤ k1) ∧ Aside0 (Kd.R Kd.bool 4 w' w.heap.size (fun _ => True) v124 x9_2) ∧ Aside0 (Below w.heap.size w w'))
              case atStart => exact ⟨(x9_1), (0), (by first | rfl | (simp; done) | (simp [*]; done)), H', ⟨Nat.le_refl _⟩, ⟨by (with_reducible repeat (first | apply Kd.R_alloc | apply Kd.R_drewN | apply Kd.R_drew)); exact HO_9.out⟩, ⟨by repeat (first | (with_reducible first | exact HB.out | apply below_alloc | apply pw_below_drewN | apply below_drew1) | exact HB.out)⟩⟩
              case round =>
                clear H'
                try clear c1
                try clear p2
                try clear c5
                try clear c5b0
                try clear c5b1
                try clear c6
                try clear c6b0
                try clear c6b1
                try clear p6
                try clear c7
                try clear c7b0
                try clear c7b1
                try clear c10
                try clear c10b0
                try clear p2
                try clear p6
                obtain ⟨x9_2, x13_2, rfl, HA, HK2, HO_9, HB⟩ := hrel
                cases gk with
                | zero => exact absurd HA.out (by simp [spec_ODRow.l1])
                | succ k2 =>
                  have H := HA.out
                  clear HA
                  simp only [spec_ODRow.l1] at H
                  by_cases c11 : x13_2 < (wrap64 (Int.tdiv (ji4) (wrap64 ((l0.length : Int) + a2))))
                  · rw [if_pos c11] at H
                    have c11b0 : decide (x13_2 < (wrap64 (Int.tdiv (ji4) (wrap64 ((l0.length : Int) + a2))))) = true := decide_eq_true c11
                    clear c11
                    by_cases c12 : 0 ≤ x12_1
                    · rw [if_pos c12] at H
                      have c12b0 : decide (0 ≤ x12_1) = true := decide_eq_true c12
                      clear c12
                      by_cases c13 : x12_1 < (l0.length : Int)
                      · rw [if_pos c13] at H
                        have c13b0 : decide (x12_1 < (l0.length : Int)) = true := decide_eq_true c13
                        clear c13
                        obtain ⟨ji14, hji14⟩ : ∃ j_ : Int, (wrap64 ((wrap64 ((wrap64 (Int.tdiv (wrap64 ((ji4) - (wrap64 ((l0.length : Int) * (wrap64 (Int.tdiv (ji4) (wrap64 ((l0.length : Int) + a2)))))))) 2)) + (wrap64 (x12_1 * (wrap64 (Int.tdiv (ji4) (wrap64 ((l0.length : Int) + a2)))))))) + x13_2)) = j_ := ⟨_, rfl⟩
                        replace H : (if 0 ≤ (ji14) then (if (ji14) < (x9_2.length : Int) then (spec_ODRow.l1 k2 l0 (x9_2.set ((ji14) : Int).toNat (rdOf false l0 x12_1)) (wrap64 (Int.tdiv (ji4) (wrap64 ((l0.length : Int) + a2)))) (wrap64 (Int.tdiv (wrap64 ((ji4) - (wrap64 ((l0.length : Int) * (wrap64 (Int.tdiv (ji4) (wrap64 ((l0.length : Int) + a2)))))))) 2)) x12_1 (wrap64 (x13_2 + 1))) else (none)) else (none)) = some r := by first | (rw [hji14] at H; exact H) | (simp only [hji14] at H ⊢; exact H)
                        have hji14w : (IntKind.i64.wrap ((wrap64 ((wrap64 (Int.tdiv (wrap64 ((ji4) - (wrap64 ((l0.length : Int) * (wrap64 (Int.tdiv (ji4) (wrap64 ((l0.length : Int) + a2)))))))) 2)) + (wrap64 (x12_1 * (wrap64 (Int.tdiv (ji4) (wrap64 ((l0.length : Int) + a2)))))))) + x13_2)) = ji14 := (i64_w _).trans hji14
                        by_cases c15 : 0 ≤ (ji14)
                        · rw [if_pos c15] at H
                          have c15b0 : decide (0 ≤ (ji14)) = true := decide_eq_true c15
                          clear c15
                          by_cases c16 : (ji14) < (x9_2.length : Int)
                          · rw [if_pos c16] at H
                            have c16b0 : decide ((ji14) < (x9_2.length : Int)) = true := decide_eq_true c16
                            clear c16
                            obtain ⟨y127, hy127⟩ : ∃ y_ : List Bool, y_ = (x9_2.set ((ji14) : Int).toNat (rdOf false l0 x12_1)) := ⟨_, rfl⟩
                            replace H : (spec_ODRow.l1 k2 l0 y127 (wrap64 (Int.tdiv (ji4) (wrap64 ((l0.length : Int) + a2)))) (wrap64 (Int.tdiv (wrap64 ((ji4) - (wrap64 ((l0.length : Int) * (wrap64 (Int.tdiv (ji4) (wrap64 ((l0.length : Int) + a2)))))))) 2)) x12_1 (wrap64 (x13_2 + 1))) = some r := by first | (rw [hy127]; with_reducible exact H) | (have H2_ := (Option.bind_some _ _).symm.trans H; rw [hy127]; with_reducible exact H2_) | (have H2_ := (Option.bind_some _ _).symm.trans H; with_reducible exact H2_) | with_reducible exact H | (rw [hy127]; exact H) | exact H
                            have Ny127 := Aside0.mk hy127
                            clear hy127
                            have H' := Aside0.mk H
                            clear H
                            have p126 : 0 ≤ (x12_1 : Int) := of_decide_eq_true (by first | (with_reducible assumption) | assumption)
                            have q126 : x12_1 < (l0.length : Int) := of_decide_eq_true (by first | (with_reducible assumption) | assumption)
                            obtain ⟨ad126, e126, hx126_0⟩ := Kd.at_bool HR0.out x12_1 p126 q126
                            cases e126
                            replace hx126_0 := (HB.out.cell (World.block_lt_of_cell? w _ hx126_0)).trans hx126_0
                            replace p126 := eq_true p126
                            replace q126 := eq_true q126
                            have p17 : 0 ≤ ((ji14) : Int) := of_decide_eq_true (by first | (with_reducible assumption) | assumption)
                            have q17 : ((ji14) : Int) < ((x9_2.length : Int) : Int) := of_decide_eq_true (by first | (with_reducible assumption) | assumption)
                            obtain ⟨go17, co17, eo17, gb17, gl17, cl17, HG17⟩ := Kd.R_form HO_9.out (by omega)
                            (first | cases eo17 | (injection eo17 with ea_ en_ ec_; (first | subst ea_ | (injection ea_ with ea_; subst ea_)); subst ec_; clear en_))
                            have GB17 := Aside0.mk gb17
                            have GG17 := Aside0.mk HG17
                            clear gb17 gl17 HG17
                            obtain ⟨hx17_0, hf17_0⟩ := Kd.R_celln false HO_9.out ((ji14) : Int) p17 q17
                            replace p17 := eq_true p17
                            replace q17 := eq_true q17
                            have HP18 := Kd.R_putg HO_9.out ((ji14) : Int) (rdOf false l0 x12_1)
                            go_wp2_with (first | ((with_reducible refine gate_store (t := 4) (p := 56) rfl ?_); refine store_event (t := 4) (p := 56) (v := ?vo_w19) (w1 := (wr.setCell ⟨go17, ((ji14) : Int).toNat, none⟩ (.bool (rdOf false l0 x12_1)))) ?hg ?ho ?hn ?hr ?_; (case ho => rfl); (case hg => rfl); (case hn => rfl); (case hr => first | (go_simp; done) | (go_simp; rfl)); intro w19 hw; have hg : wr.grownBy w19 (some go17) := (by rw [hw]; exact HP18.2); have hp_ : Kd.R Kd.bool 4 w19 w.heap.size (fun _ => True) (.slice (some ⟨go17, 0, none⟩) x9_2.length co17) y127 := (by rw [hw, Ny127.out]; exact HP18.1); clear HP18; have n0_ := Aside0.mk (hp_); have n1_ := Aside0.mk ((by rw [hw]; exact below_set (HB.out) GB17.out : Below w.heap.size w w19)); clear HO_9; clear HB; have HO_9 := n0_; have HB := n1_; clear n0_ n1_; clear hg hw hp_))
                            go_roundg k2
                            case measure => have := HK1.out; have := HK2.out; omega
                            case rel => exact ⟨(y127), (wrap64 (x13_2 + 1)), (by first | rfl | (simp; done) | (simp [*]; done)), H', ⟨by have := HK1.out; have := HK2.out; omega⟩, ⟨by (with_reducible repeat (first | apply Kd.R_alloc | apply Kd.R_drewN | apply Kd.R_drew)); exact HO_9.out⟩, ⟨by repeat (first | (with_reducible first | exact HB.out | apply below_alloc | apply pw_below_drewN | apply below_drew1) | exact HB.out)⟩⟩
                          · rw [if_neg c16] at H
                            exact absurd H (by simp)
                        · rw [if_neg c15] at H
                          exact absurd H (by simp)
                      · rw [if_neg c13] at H
                        exact absurd H (by simp)
                    · rw [if_neg c12] at H
                      exact absurd H (by simp)
                  · rw [if_neg c11] at H
                    have c11b0 : decide (x13_2 < (wrap64 (Int.tdiv (ji4) (wrap64 ((l0.length : Int) + a2))))) = false := decide_eq_false c11
                    clear c11
                    have H' := Aside0.mk H
                    clear H
                    go_wp2
                    go_roundg k2
                    case measure => have := HK1.out; have := HK2.out; omega
                    case rel => exact ⟨(x9_2), (wrap64 (x12_1 + 1)), (by first | rfl | (simp; done) | (simp [*]; done)), H', ⟨by have := HK1.out; have := HK2.out; omega⟩, ⟨by (with_reducible repeat (first | apply Kd.R_alloc | apply Kd.R_drewN | apply Kd.R_drew)); exact HO_9.out⟩, ⟨by repeat (first | (with_reducible first | exact HB.out | apply below_alloc | apply pw_below_drewN | apply below_drew1) | exact HB.out)⟩⟩
            · rw [if_neg c10] at H
              have c10b0 : decide (x12_1 < (l0.length : Int)) = false := decide_eq_false c10
              clear c10
              obtain rfl := Option.some.inj H
              go_wp2
              go_ret
              exact ⟨_, by first | rfl | (simp [errW_none, errW_some] <;> rfl) | (simp only [← hji4]; first | rfl | (simp [errW_none, errW_some] <;> rfl)) | (simp [*, errW_none, errW_some] <;> rfl), by (with_reducible repeat (first | apply Kd.R_alloc | apply Kd.R_drewN | apply Kd.R_drew)); exact HO_9.out, by repeat (first | (with_reducible first | exact HB.out | apply below_alloc | apply pw_below_drewN | apply below_drew1) | exact HB.out)⟩
    · rw [if_neg c6] at H
      exact absurd H (by simp)
  · rw [if_neg c5] at H
    exact absurd H (by simp)
end Go.Proofs.YthkddnmomjcdaaaGreat.F
namespace Go.Proofs.YthkddnmomjcdaaaGreat.B
open Go.RowKit Go.Proofs.YthkddnmomjcdaaaGreatW.PrintWords Go.Proofs.YthkddnmomjcdaaaGreatW.PrintLast Go.Proofs.YthkddnmomjcdaaaGreatW.PrintMore
set_option linter.unusedVariables false
set_option linter.unusedSimpArgs false

/-! ### Bits of words -/
def W32 (xs : List Int) : Prop := ∀ v ∈ xs, 0 ≤ v ∧ v < 4294967296
theorem rd_mem (xs : List Int) (i : Int) (h : i.toNat < xs.length) : rd xs i ∈ xs := by
  rw [rd, List.getD_eq_getElem?_getD, List.getElem?_eq_getElem h]
  exact List.getElem_mem h
theorem pow_lt (k : Int) (h0 : 0 ≤ k) (h : k < 32) : 2 ^ k.toNat < 4294967296 := by
  have : 2 ^ k.toNat < 2 ^ 32 := Nat.pow_lt_pow_right (by omega) (by omega)
  simpa using this
theorem shl_eq (k : Int) (h0 : 0 ≤ k) (h : k < 32) : (2 : Int) ^ k.toNat % 4294967296 = ((2 ^ k.toNat : Nat) : Int) := by
  have := pow_lt k h0 h
  rw [show (2 : Int) ^ k.toNat = ((2 ^ k.toNat : Nat) : Int) by simp]
  generalize 2 ^ k.toNat = q at *
  omega
theorem and_pow (a k : Nat) : (((a &&& 2 ^ k : Nat) : Int) != 0) = a.testBit k := by
  cases h : a.testBit k with
  | true =>
    rw [bne_iff_ne]
    intro e
    have e0 : a &&& 2 ^ k = 0 := by omega
    have h1 : (a &&& 2 ^ k).testBit k = true := by rw [Nat.testBit_and, h, Nat.testBit_two_pow]; simp
    rw [e0] at h1
    simp at h1
  | false =>
    have e0 : a &&& 2 ^ k = 0 := by
      apply Nat.eq_of_testBit_eq
      intro i
      rw [Nat.testBit_and, Nat.testBit_two_pow, Nat.zero_testBit]
      by_cases e : k = i
      · subst e; simp [h]
      · simp [e]
    rw [e0]
    rfl
theorem bitAt_eq (xs : List Int) (hw : W32 xs) (x : Int) (h0 : 0 ≤ x) (h1 : x / 32 < xs.length) : bitAt xs x = (rd xs (x / 32)).toNat.testBit (x % 32).toNat := by
  have hm := hw _ (rd_mem xs (x / 32) (by omega))
  have hp := pow_lt (x % 32) (by omega) (by omega)
  rw [bitAt, shl_eq _ (by omega) (by omega), u32_and _ _ hm.1 hm.2 (Int.natCast_nonneg _) (Int.ofNat_lt.2 hp), Int.toNat_natCast, and_pow]
theorem orBit_w (xs : List Int) (hw : W32 xs) (o x : Int) (h0 : 0 ≤ o) (h1 : 0 ≤ x) (h2 : o + x / 32 < xs.length) : W32 (orBit xs o x) := by
  intro v hv
  rcases List.mem_or_eq_of_mem_set hv with h | h
  · exact hw v h
  · subst h
    have hm := hw _ (rd_mem xs (o + x / 32) (by omega))
    have hp := pow_lt (x % 32) (by omega) (by omega)
    rw [shl_eq _ (by omega) (by omega), u32_or _ _ hm.1 hm.2 (Int.natCast_nonneg _) (Int.ofNat_lt.2 hp), Int.toNat_natCast]
    generalize 2 ^ (x % 32).toNat = q at *
    have : (rd xs (o + x / 32)).toNat ||| q < 2 ^ 32 := Nat.or_lt_two_pow (by omega) (by omega)
    omega
theorem rd_set (xs : List Int) (i j : Int) (v : Int) (h0 : 0 ≤ i) (h1 : 0 ≤ j) (h2 : i < xs.length) : rd (xs.set i.toNat v) j = if j = i then v else rd xs j := by
  rw [rd, rd, List.getD_eq_getElem?_getD, List.getD_eq_getElem?_getD, List.getElem?_set]
  by_cases e : j = i
  · subst e
    simp [show j.toNat < xs.length by omega]
  · rw [if_neg e, if_neg (by omega)]
theorem bitAt_orBit (xs : List Int) (hw : W32 xs) (o x y : Int) (h0 : 0 ≤ o) (h1 : 0 ≤ x) (h2 : o + x / 32 < xs.length) (h3 : 0 ≤ y) (h4 : y / 32 < xs.length) :
    bitAt (orBit xs o x) y = (bitAt xs y || decide (y = 32 * o + x)) := by
  rw [bitAt_eq _ (orBit_w xs hw o x h0 h1 h2) y h3 (by rw [orBit_length]; exact h4), bitAt_eq xs hw y h3 h4, orBit, rd_set _ _ _ _ (by omega) (by omega) h2]
  have hm := hw _ (rd_mem xs (o + x / 32) (by omega))
  have hp := pow_lt (x % 32) (by omega) (by omega)
  by_cases e : y / 32 = o + x / 32
  · rw [if_pos e, shl_eq _ (by omega) (by omega), u32_or _ _ hm.1 hm.2 (Int.natCast_nonneg _) (Int.ofNat_lt.2 hp), Int.toNat_natCast, Int.toNat_natCast, Nat.testBit_or, Nat.testBit_two_pow, e]
    congr 1
    rw [decide_eq_decide]
    omega
  · rw [if_neg e]
    have : ¬ y = 32 * o + x := by omega
    simp [this]
theorem sregX_w (xs : List Int) (hw : W32 xs) (o left : Int) (h0 : 0 ≤ o) (h1 : 0 ≤ left) : ∀ n : Nat, (n = 0 ∨ o + (left + n - 1) / 32 < xs.length) → W32 (sregX xs o left n)
  | 0, _ => hw
  | n + 1, h => by
    have ih := sregX_w xs hw o left h0 h1 n (by omega)
    exact orBit_w _ ih o (left + n) h0 (by omega) (by rw [sregX_length]; omega)
theorem bitAt_sregX (xs : List Int) (hw : W32 xs) (o left y : Int) (h0 : 0 ≤ o) (h1 : 0 ≤ left) (h3 : 0 ≤ y) (h4 : y / 32 < xs.length) : ∀ n : Nat, (n = 0 ∨ o + (left + n - 1) / 32 < xs.length) →
    bitAt (sregX xs o left n) y = (bitAt xs y || decide (32 * o + left ≤ y ∧ y < 32 * o + left + n))
  | 0, _ => by
    have : decide (32 * o + left ≤ y ∧ y < 32 * o + left + ((0 : Nat) : Int)) = false := decide_eq_false (by omega)
    rw [sregX, this, Bool.or_false]
  | n + 1, h => by
    rw [sregX, bitAt_orBit _ (sregX_w xs hw o left h0 h1 n (by omega)) _ _ _ h0 (by omega) (by rw [sregX_length]; omega) h3 (by rw [sregX_length]; omega), bitAt_sregX xs hw o left y h0 h1 h3 h4 n (by omega), Bool.or_assoc]
    congr 1
    rw [← Bool.decide_or, decide_eq_decide]
    omega

/-- What a painted row has at y. -/
def rowAt (code : List Bool) (left many : Int) (y : Int) : Bool := if left ≤ y ∧ y < left + code.length * many then rdOf false code ((y - left) / many) else false
theorem paint_bits (code : List Bool) (left many : Int) (xs : List Int) (hw : W32 xs) (h0 : 0 ≤ left) (h1 : 1 ≤ many) (R : Nat) (hR : xs.length = R) (hz : ∀ y : Int, 0 ≤ y → y / 32 < R → bitAt xs y = false) :
    ∀ n : Nat, (n = 0 ∨ (left + n * many - 1) / 32 < R) → W32 (paint code left many xs n) ∧ ∀ y : Int, 0 ≤ y → y / 32 < R →
      bitAt (paint code left many xs n) y = (if left ≤ y ∧ y < left + n * many then rdOf false code ((y - left) / many) else false)
  | 0, _ => ⟨hw, fun y hy hy2 => by rw [paint, hz y hy hy2, if_neg (by rw [show ((0 : Nat) : Int) * many = 0 by simp]; omega)]⟩
  | n + 1, h => by
    have e1 : ((n + 1 : Nat) : Int) * many = n * many + many := by push_cast; rw [Int.add_mul, Int.one_mul]
    rw [e1] at h
    have hnn : 0 ≤ (n : Int) * many := Int.mul_nonneg (by omega) (by omega)
    obtain ⟨ihw, ih⟩ := paint_bits code left many xs hw h0 h1 R hR hz n (by omega)
    have hl := paint_length code left many xs n
    obtain ⟨p, hp⟩ : ∃ p, (n : Int) * many = p := ⟨_, rfl⟩
    rw [hp] at hnn h ih e1
    have hdiv : ∀ y : Int, left + p ≤ y → y < left + p + many → (y - left) / many = n := by
      intro y ha hb
      have h2 : y - left = (y - left - p) + n * many := by omega
      rw [h2, Int.add_mul_ediv_right _ _ (by omega), Int.ediv_eq_zero_of_lt (by omega) (by omega)]
      omega
    rw [paint]
    split
    · rename_i hc
      have hs : sreg (paint code left many xs n) (xs.length : Int) (left + (n : Int) * many) many.toNat 0 1 = sregX (paint code left many xs n) 0 (left + p) many.toNat := by
        simp only [sreg, hp]
        simp
      rw [hs]
      refine ⟨sregX_w _ ihw 0 (left + p) (by omega) (by omega) _ (by rw [hl]; omega), fun y hy hy2 => ?_⟩
      rw [bitAt_sregX _ ihw 0 (left + p) y (by omega) (by omega) hy (by rw [hl]; omega) _ (by rw [hl]; omega), ih y hy hy2, e1]
      by_cases ha : left + p ≤ y ∧ y < left + p + many
      · rw [if_neg (by omega), if_pos (by omega), hdiv y ha.1 ha.2, hc]
        simp; omega
      · have hd : decide (32 * (0 : Int) + (left + p) ≤ y ∧ y < 32 * (0 : Int) + (left + p) + (many.toNat : Int)) = false := decide_eq_false (by omega)
        rw [hd, Bool.or_false]
        by_cases hb : left ≤ y ∧ y < left + p
        · rw [if_pos hb, if_pos (by omega)]
        · rw [if_neg hb, if_neg (by omega)]
    · rename_i hc
      refine ⟨ihw, fun y hy hy2 => ?_⟩
      rw [ih y hy hy2, e1]
      by_cases ha : left + p ≤ y ∧ y < left + p + many
      · rw [if_neg (by omega), if_pos (by omega), hdiv y ha.1 ha.2]
        simpa using hc
      · by_cases hb : left ≤ y ∧ y < left + p
        · rw [if_pos hb, if_pos (by omega)]
        · rw [if_neg hb, if_neg (by omega)]

theorem cpy_eq (xs ys : List Int) : ∀ n : Nat, n ≤ ys.length → n ≤ xs.length → cpy xs ys 0 n = xs.take n ++ ys.drop n
  | 0, _, _ => by simp [cpy]
  | n + 1, h1, h2 => by
    rw [cpy, cpy_eq xs ys n (by omega) (by omega)]
    have hl : (xs.take n).length = n := by simp; omega
    have e : rd xs (0 + (n : Int)) = xs[n] := by simp [rd, List.getElem?_eq_getElem (show n < xs.length by omega)]
    rw [List.set_append_right _ _ (by omega), hl, Nat.sub_self, List.drop_eq_getElem_cons (show n < ys.length by omega), List.set_cons_zero, e, List.take_succ_eq_append_getElem (show n < xs.length by omega), List.append_assoc]
    rfl

def rowList (code : List Bool) (left many : Int) (n : Nat) : List Bool := (List.range n).map fun (i : Nat) => rowAt code left many i
theorem row_eq (code : List Bool) (left many : Int) (R OUT : Nat) (h0 : 0 ≤ left) (h1 : 1 ≤ many) (h2 : left + code.length * many ≤ OUT) (hR : ((OUT : Int) + 31) / 32 = R) :
    unbits (cpy (paint code left many (List.replicate R 0) code.length) (List.replicate R 0) 0 R) OUT = rowList code left many OUT := by
  have hl := paint_length code left many (List.replicate R 0) code.length
  rw [List.length_replicate] at hl
  rw [cpy_eq _ _ R (by simp) (by omega), List.take_of_length_le (by omega), List.drop_of_length_le (by simp), List.append_nil]
  have hw0 : W32 (List.replicate R 0) := fun v hv => by rw [List.eq_of_mem_replicate hv]; omega
  have hz : ∀ y : Int, 0 ≤ y → y / 32 < R → bitAt (List.replicate R 0) y = false := fun y hy hy2 => by
    rw [bitAt_eq _ hw0 y hy (by simpa using hy2)]
    have hm := rd_mem (List.replicate R 0) (y / 32) (by simp; omega)
    rw [List.eq_of_mem_replicate hm]
    simp
  obtain ⟨_, hb⟩ := paint_bits code left many (List.replicate R 0) hw0 h0 h1 R (by simp) hz code.length (by omega)
  unfold unbits rowList
  refine List.map_congr_left fun i hi => ?_
  rw [List.mem_range] at hi
  rw [hb i (by omega) (by omega)]
  rfl

/-! ### The reference's row -/
/-- So many pixels of a row are painted. -/
def RowInv (code : List Bool) (left many : Int) (OUT : Nat) (xs : List Bool) (n : Int) : Prop :=
  xs.length = OUT ∧ ∀ y : Int, 0 ≤ y → y < OUT → rdOf false xs y = (if left ≤ y ∧ y < left + n then rdOf false code ((y - left) / many) else false)
theorem rdOf_set {α : Type} (d : α) (xs : List α) (i j : Int) (v : α) (h0 : 0 ≤ i) (h1 : 0 ≤ j) (h2 : i < xs.length) : rdOf d (xs.set i.toNat v) j = if j = i then v else rdOf d xs j := by
  rw [rdOf, rdOf, List.getD_eq_getElem?_getD, List.getD_eq_getElem?_getD, List.getElem?_set]
  by_cases e : j = i
  · subst e
    simp [show j.toNat < xs.length by omega]
  · rw [if_neg e, if_neg (by omega)]
theorem rowInv_step (code : List Bool) (left many : Int) (OUT : Nat) (xs : List Bool) (n : Int) (h : RowInv code left many OUT xs n) (h0 : 0 ≤ left) (hn : 0 ≤ n) (hl : left + n < OUT) :
    RowInv code left many OUT (xs.set (left + n).toNat (rdOf false code (n / many))) (n + 1) := by
  refine ⟨by rw [List.length_set]; exact h.1, fun y hy hy2 => ?_⟩
  rw [rdOf_set false xs (left + n) y _ (by omega) hy (by rw [h.1]; omega)]
  by_cases e : y = left + n
  · rw [if_pos e, if_pos (by omega), e, show left + n - left = n by omega]
  · rw [if_neg e, h.2 y hy hy2]
    by_cases e2 : left ≤ y ∧ y < left + n
    · rw [if_pos e2, if_pos (by omega)]
    · rw [if_neg e2, if_neg (by omega)]
theorem rowInv_list (code : List Bool) (left many : Int) (OUT : Nat) (xs : List Bool) (h : RowInv code left many OUT xs (code.length * many)) : xs = rowList code left many OUT := by
  apply List.ext_getElem?
  intro i
  by_cases hi : i < OUT
  · have h1 := h.2 i (by omega) (by omega)
    rw [List.getElem?_eq_getElem (by rw [h.1]; exact hi), rowList, List.getElem?_map, List.getElem?_range hi]
    have h2 : rdOf false xs (i : Int) = xs[i]'(by rw [h.1]; exact hi) := by simp [rdOf, List.getElem?_eq_getElem (show i < xs.length by rw [h.1]; exact hi)]
    rw [← h2, h1]
    rfl
  · rw [List.getElem?_eq_none (by rw [h.1]; omega), List.getElem?_eq_none (by simp [rowList]; omega)]

theorem odRow_run (code : List Bool) (left many : Int) (OUT : Nat) (h0 : 0 ≤ left) (h1 : 1 ≤ many) (h2 : left + code.length * many ≤ OUT) (hO : OUT ≤ 1000000) (hm : many ≤ 1000000) (hc : code.length ≤ 1000000) :
    ∀ (d i : Nat) (xs : List Bool), (code.length : Int) - i = d → RowInv code left many OUT xs (i * many) → Ev (fun k => F.spec_ODRow.l0 k code xs many left i) (rowList code left many OUT) := by
  intro d
  induction d with
  | zero =>
    intro i xs hd hx
    refine Ev.step (f := fun _ => some xs) (fun k => ?_) ?_
    · rw [F.spec_ODRow.l0, if_neg (by omega)]
    · have : (i : Int) = code.length := by omega
      rw [this] at hx
      rw [← rowInv_list code left many OUT xs hx]
      exact Ev.now xs
  | succ d ih =>
    intro i xs hd hx
    have e1 : ((i + 1 : Nat) : Int) * many = i * many + many := by push_cast; rw [Int.add_mul, Int.one_mul]
    have hle : (i : Int) * many + many ≤ code.length * many := by
      rw [← e1]; exact Int.mul_le_mul_of_nonneg_right (by omega) (by omega)
    have hnn : 0 ≤ (i : Int) * many := Int.mul_nonneg (by omega) (by omega)
    refine Ev.step (f := fun k => F.spec_ODRow.l1 k code xs many left i 0) (fun k => ?_) ?_
    · rw [F.spec_ODRow.l0, if_pos (by omega)]
    · suffices H : ∀ (q : Nat) (k : Int) (zs : List Bool), 0 ≤ k → many - k = q → RowInv code left many OUT zs (i * many + k) → Ev (fun f => F.spec_ODRow.l1 f code zs many left i k) (rowList code left many OUT) from
        H many.toNat 0 xs (by omega) (by omega) (by simpa using hx)
      intro q
      induction q with
      | zero =>
        intro k zs hk hq hz
        refine Ev.step (f := fun f => F.spec_ODRow.l0 f code zs many left ((i + 1 : Nat) : Int)) (fun f => ?_) ?_
        · rw [F.spec_ODRow.l1, if_neg (by omega), show wrap64 ((i : Int) + 1) = ((i + 1 : Nat) : Int) by unfold wrap64; omega]
        · exact ih (i + 1) zs (by omega) (by rw [e1]; have : k = many := by omega
                                             rwa [this] at hz)
      | succ q ihq =>
        intro k zs hk hq hz
        generalize hp : (i : Int) * many = p at *
        have hdiv : (p + k) / many = i := by
          rw [← hp, Int.add_comm, Int.add_mul_ediv_right _ _ (by omega), Int.ediv_eq_zero_of_lt hk (by omega)]
          omega
        refine Ev.step (f := fun f => F.spec_ODRow.l1 f code (zs.set (left + (p + k)).toNat (rdOf false code ((p + k) / many))) many left i (k + 1)) (fun f => ?_) ?_
        · have w1 : wrap64 ((i : Int) * many) = p := by rw [hp]; unfold wrap64; omega
          have w2 : wrap64 (left + p) = left + p := by unfold wrap64; omega
          have w3 : wrap64 (left + p + k) = left + (p + k) := by unfold wrap64; omega
          rw [F.spec_ODRow.l1, if_pos (by omega), if_pos (by omega), if_pos (by omega), w1, w2, w3, if_pos (by omega), if_pos (by rw [hz.1]; omega), show wrap64 (k + 1) = k + 1 by unfold wrap64; omega, hdiv]
        · exact ihq (k + 1) _ (by omega) (by omega) (by
            have := rowInv_step code left many OUT zs (p + k) hz h0 (by omega) (by omega)
            rwa [show p + k + 1 = p + (k + 1) by omega] at this)

theorem odRow (code : List Bool) (wd mg full out many left : Int) (OUT : Nat) (q0 : 0 < (code.length : Int) + mg) (hm0 : 0 ≤ mg) (hm1 : mg ≤ 1000) (hw0 : 0 ≤ wd) (hw1 : wd ≤ 100000) (hlc : code.length ≤ 100000)
    (hfull : (code.length : Int) + mg = full) (hout : (if full < wd then wd else full) = out) (hmany : out / full = many) (hleft : (out - code.length * many) / 2 = left) (hOUT : out = (OUT : Int)) :
    Ev (fun k => F.spec_ODRow.f k code wd mg) (rowList code left many OUT) := by
  have hb : 0 < full ∧ full ≤ out ∧ out ≤ 200000 := by split at hout <;> omega
  obtain ⟨hb0, hb1, hb2⟩ := hb
  have hmx : mx wd full = out := by unfold mx; rw [← hout]; split <;> split <;> omega
  have hmy : 1 ≤ many := by rw [← hmany]; exact (Int.le_ediv_iff_mul_le (by omega)).2 (by omega)
  have hle : many ≤ 200000 := by rw [← hmany]; exact Int.le_trans (Int.ediv_le_self _ (by omega)) (by omega)
  have hlm : (code.length : Int) * many ≤ out := by
    rw [← hmany]
    have h1 := Int.mul_ediv_self_le (x := out) (k := full) (by omega)
    have h4 := Int.mul_le_mul_of_nonneg_right (show (code.length : Int) ≤ full by omega) (show 0 ≤ out / full by omega)
    omega
  have hnn : 0 ≤ (code.length : Int) * many := Int.mul_nonneg (by omega) (by omega)
  generalize hp : (code.length : Int) * many = p at *
  have hmain := odRow_run code left many OUT (by omega) hmy (by omega) (by omega) (by omega) (by omega) code.length 0 (List.replicate OUT false) (by omega) ⟨by simp, fun y hy hy2 => by
    rw [if_neg (by rw [show ((0 : Nat) : Int) * many = 0 by simp]; omega), rdOf, List.getD_eq_getElem?_getD, List.getElem?_replicate]
    split <;> rfl⟩
  refine Ev.congr (fun k => ?_) hmain
  have w1 : wrap64 ((code.length : Int) + mg) = full := by rw [hfull]; unfold wrap64; omega
  have t1 : Int.tdiv out full = many := by rw [Int.tdiv_eq_ediv_of_nonneg (by omega)]; exact hmany
  have w2 : wrap64 many = many := by unfold wrap64; omega
  have w3 : wrap64 ((code.length : Int) * many) = p := by rw [hp]; unfold wrap64; omega
  have w4 : wrap64 (out - p) = out - p := by unfold wrap64; omega
  have t2 : Int.tdiv (out - p) 2 = left := by rw [Int.tdiv_eq_ediv_of_nonneg (by omega)]; exact hleft
  have w5 : wrap64 left = left := by unfold wrap64; omega
  unfold F.spec_ODRow.f
  rw [w1, hmx, if_pos (by omega), if_pos (by omega), if_neg (by omega), t1, w2, w3, w4, t2, w5]
  rw [show out.toNat = OUT by omega]
  rfl

theorem sameBits (xs : List Bool) (hl : xs.length ≤ 1000000) : Ev (fun k => F.spec_BISameBits.f k xs xs) true := by
  have H : ∀ (d i : Nat), (xs.length : Int) - i = d → Ev (fun k => F.spec_BISameBits.l0 k xs xs i) true := by
    intro d
    induction d with
    | zero =>
      intro i hd
      refine Ev.step (f := fun _ => some true) (fun k => ?_) (Ev.now true)
      rw [F.spec_BISameBits.l0, if_neg (by omega)]
    | succ d ih =>
      intro i hd
      refine Ev.step (fun k => ?_) (ih (i + 1) (by omega))
      rw [F.spec_BISameBits.l0, if_pos (by omega), if_pos (by omega), if_pos (by omega), if_neg (by simp), show wrap64 ((i : Int) + 1) = ((i + 1 : Nat) : Int) by unfold wrap64; omega]
  refine Ev.congr (fun k => ?_) (H xs.length 0 (by omega))
  unfold F.spec_BISameBits.f
  rw [if_pos rfl]
  rfl
end Go.Proofs.YthkddnmomjcdaaaGreat.B
namespace Go.Proofs.YthkddnmomjcdaaaGreat.F
open Go.RowKit Go.Proofs.YthkddnmomjcdaaaGreatW.PrintWords Go.Proofs.YthkddnmomjcdaaaGreatW.PrintLast Go.Proofs.YthkddnmomjcdaaaGreatW.PrintMore
attribute [local go_sem] max2_int min2_int max_two min_two max_three min_three max_four min_four   -- for this text's walks alone
set_option linter.unusedVariables false
set_option linter.unusedSimpArgs false

/-! ### spec_ODSome: function 25 -/
def spec_ODSome.l0 : Nat → ByteArray → List Int → Int → ByteArray → Int → Option (ByteArray)
  | 0, _, _, _, _, _ => none
  | k + 1, x0, x1, x2, x7, x8 => if x8 < (x1.length : Int) then (if x8 < x2 then (if 0 ≤ x8 then (if (x0.size : Int) = 0 then (none) else (if 0 ≤ (Int.tmod (wrap64 (rd x1 x8)) (x0.size : Int)) then (if (Int.tmod (wrap64 (rd x1 x8)) (x0.size : Int)) ≤ (wrap64 ((Int.tmod (wrap64 (rd x1 x8)) (x0.size : Int)) + 1)) then (if (wrap64 ((Int.tmod (wrap64 (rd x1 x8)) (x0.size : Int)) + 1)) ≤ (x0.size : Int) then (if x7.size + (x0.extract ((Int.tmod (wrap64 (rd x1 x8)) (x0.size : Int)) : Int).toNat ((wrap64 ((Int.tmod (wrap64 (rd x1 x8)) (x0.size : Int)) + 1)) : Int).toNat).size ≤ 9223372036854775807 then (spec_ODSome.l0 k x0 x1 x2 (x7 ++ (x0.extract ((Int.tmod (wrap64 (rd x1 x8)) (x0.size : Int)) : Int).toNat ((wrap64 ((Int.tmod (wrap64 (rd x1 x8)) (x0.size : Int)) + 1)) : Int).toNat)) (wrap64 (x8 + 1))) else (none)) else (none)) else (none)) else (none))) else (none)) else (some x7)) else (some x7)
def spec_ODSome.f (k : Nat) (a0 : ByteArray) (l1 : List Int) (a2 : Int) : Option (ByteArray) := spec_ODSome.l0 k a0 l1 a2 (⟨#[]⟩ : ByteArray) 0
theorem spec_ODSome.mono_l : ∀ k, (∀ y0 y1 y2 y3 y4, LeO (spec_ODSome.l0 k y0 y1 y2 y3 y4) (spec_ODSome.l0 (k + 1) y0 y1 y2 y3 y4))
  | 0 => fun _ _ _ _ _ r h => by simp [spec_ODSome.l0] at h
  | k + 1 => by
    have ih0 := spec_ODSome.mono_l k
    · intro y0 y1 y2 y3 y4
      unfold spec_ODSome.l0
      repeat' first
      | (with_reducible exact ih0 _ _ _ _ _)
      | (with_reducible exact LeO.refl _)
      | (with_reducible exact LeO.none _)
      | (with_reducible refine LeO.ite ?_ ?_)
      | (with_reducible refine LeO.bind ?_ (fun _ => ?_))
      | exact ih0 _ _ _ _ _
      | exact LeO.none _
      | refine LeO.ite ?_ ?_
      | refine LeO.bind ?_ (fun _ => ?_)
theorem spec_ODSome.mono : ∀ a0 a1 a2 k, LeO (spec_ODSome.f k a0 a1 a2) (spec_ODSome.f (k + 1) a0 a1 a2) := by
  intro a0 a1 a2 k
  have ih0 := spec_ODSome.mono_l k
  unfold spec_ODSome.f
  repeat' first
      | (with_reducible exact ih0 _ _ _ _ _)
      | (with_reducible exact LeO.refl _)
      | (with_reducible exact LeO.none _)
      | (with_reducible refine LeO.ite ?_ ?_)
      | (with_reducible refine LeO.bind ?_ (fun _ => ?_))
      | exact ih0 _ _ _ _ _
      | exact LeO.none _
      | refine LeO.ite ?_ ?_
      | refine LeO.bind ?_ (fun _ => ?_)
set_option maxHeartbeats 8000000 in
set_option maxRecDepth 100000 in
theorem spec_ODSome.calls (k : Nat) (a0 : ByteArray) (A1 : Option Addr) (c1 : Nat) (l1 : List Int) (a2 : Int) (r : ByteArray) (w : World) (hr1 : Kd.C (Kd.int .u8) w A1 l1.length l1) (hc1 : l1.length ≤ c1) (h : spec_ODSome.f k a0 l1 a2 = some r) :
    Calls Tryz.prog 25 #[.string a0, .slice A1 l1.length c1, .int .i64 a2] w fun e w' => e = .returned (.string r) ∧ Drawn0 w w' := by
  have HR1 := Aside0.mk hr1
  have HC1 := Aside0.mk hc1
  clear hr1 hc1
  have H : (spec_ODSome.l0 k a0 l1 a2 (⟨#[]⟩ : ByteArray) 0) = some r := h
  clear h
  have H' := Aside0.mk H
  clear H
  go_enter Tryz.func25, Tryz.ntmps25
  go_wp2
  go_loopg [7, 8] k (fun kq v7 v8 w' => ∃ (x7_1 : ByteArray) (x8_1 : Int), v7 = .string x7_1 ∧ v8 = .int .i64 x8_1 ∧ Aside0 (spec_ODSome.l0 kq a0 l1 a2 x7_1 x8_1 = some r) ∧ Aside0 (kq ≤ k) ∧ Drawn0 w w')
  case atStart => exact ⟨((⟨#[]⟩ : ByteArray)), (0), (by first | rfl | (simp; done) | (simp [*]; done)), (by first | rfl | (simp; done) | (simp [*]; done)), H', ⟨Nat.le_refl _⟩, by repeat (first | exact Drawn0.refl _ | apply Drawn0.step)⟩
  case round =>
    clear H'
    try clear c1
    try clear c2
    try clear p2
    obtain ⟨x7_1, x8_1, rfl, rfl, HA, HK1, ⟨m1, rfl⟩⟩ := hrel
    cases gk with
    | zero => exact absurd HA.out (by simp [spec_ODSome.l0])
    | succ k1 =>
      have H := HA.out
      clear HA
      simp only [spec_ODSome.l0] at H
      by_cases c4 : x8_1 < (l1.length : Int)
      · rw [if_pos c4] at H
        have c4b0 : decide (x8_1 < (l1.length : Int)) = true := decide_eq_true c4
        clear c4
        by_cases c5 : x8_1 < a2
        · rw [if_pos c5] at H
          have c5b0 : decide (x8_1 < a2) = true := decide_eq_true c5
          clear c5
          by_cases c6 : 0 ≤ x8_1
          · rw [if_pos c6] at H
            have c6b0 : decide (0 ≤ x8_1) = true := decide_eq_true c6
            clear c6
            by_cases c7 : (a0.size : Int) = 0
            · rw [if_pos c7] at H
              exact absurd H (by simp)
            · rw [if_neg c7] at H
              have c7b0 : ((a0.size : Int) == 0) = false := beq_eq_false_iff_ne.mpr c7
              have c7b1 : ((a0.size : Int) != 0) = true := bne_iff_ne.mpr c7
              obtain ⟨ji8, hji8⟩ : ∃ j_ : Int, (Int.tmod (wrap64 (rd l1 x8_1)) (a0.size : Int)) = j_ := ⟨_, rfl⟩
              replace H : (if 0 ≤ (ji8) then (if (ji8) ≤ (wrap64 ((ji8) + 1)) then (if (wrap64 ((ji8) + 1)) ≤ (a0.size : Int) then (if x7_1.size + (a0.extract ((ji8) : Int).toNat ((wrap64 ((ji8) + 1)) : Int).toNat).size ≤ 9223372036854775807 then (spec_ODSome.l0 k1 a0 l1 a2 (x7_1 ++ (a0.extract ((ji8) : Int).toNat ((wrap64 ((ji8) + 1)) : Int).toNat)) (wrap64 (x8_1 + 1))) else (none)) else (none)) else (none)) else (none)) = some r := by first | (rw [hji8] at H; exact H) | (simp only [hji8] at H ⊢; exact H)
              by_cases c9 : 0 ≤ (ji8)
              · rw [if_pos c9] at H
                have c9b0 := eq_true c9
                have c9b1 : decide (0 ≤ (ji8)) = true := decide_eq_true c9
                clear c9
                by_cases c10 : (ji8) ≤ (wrap64 ((ji8) + 1))
                · rw [if_pos c10] at H
                  have c10b0 := eq_true c10
                  have c10b1 : decide ((ji8) ≤ (wrap64 ((ji8) + 1))) = true := decide_eq_true c10
                  by_cases c11 : (wrap64 ((ji8) + 1)) ≤ (a0.size : Int)
                  · rw [if_pos c11] at H
                    have c11b0 := eq_true c11
                    have c11b1 : decide ((wrap64 ((ji8) + 1)) ≤ (a0.size : Int)) = true := decide_eq_true c11
                    by_cases c12 : x7_1.size + (a0.extract ((ji8) : Int).toNat ((wrap64 ((ji8) + 1)) : Int).toNat).size ≤ 9223372036854775807
                    · rw [if_pos c12] at H
                      have c12b0 := eq_true c12
                      have c12b1 : decide (x7_1.size + (a0.extract ((ji8) : Int).toNat ((wrap64 ((ji8) + 1)) : Int).toNat).size ≤ 9223372036854775807) = true := decide_eq_true c12
                      try have c12b2 : (9223372036854775807 < x7_1.size + (a0.extract ((ji8) : Int).toNat ((wrap64 ((ji8) + 1)) : Int).toNat).size) = False := eq_false (Nat.not_lt.2 c12)
                      have H' := Aside0.mk H
                      clear H
                      have p187 : 0 ≤ (x8_1 : Int) := of_decide_eq_true (by first | (with_reducible assumption) | assumption)
                      have q187 : x8_1 < (l1.length : Int) := of_decide_eq_true (by first | (with_reducible assumption) | assumption)
                      obtain ⟨ad187, e187, hx187_0⟩ := Kd.at_int HR1.out x8_1 p187 q187
                      cases e187
                      replace p187 := eq_true p187
                      replace q187 := eq_true q187
                      go_wp2
                      go_roundg k1
                      case measure => have := HK1.out; omega
                      case rel => exact ⟨(x7_1 ++ (a0.extract ((ji8) : Int).toNat ((wrap64 ((ji8) + 1)) : Int).toNat)), (wrap64 (x8_1 + 1)), (by first | rfl | (simp; done) | (simp only [← hji8] <;> (first | rfl | simp)) | (simp [*]; done)), (by first | rfl | (simp; done) | (simp [*]; done)), H', ⟨by have := HK1.out; omega⟩, by repeat (first | exact Drawn0.refl _ | apply Drawn0.step)⟩
                    · rw [if_neg c12] at H
                      exact absurd H (by simp)
                  · rw [if_neg c11] at H
                    exact absurd H (by simp)
                · rw [if_neg c10] at H
                  exact absurd H (by simp)
              · rw [if_neg c9] at H
                exact absurd H (by simp)
          · rw [if_neg c6] at H
            exact absurd H (by simp)
        · rw [if_neg c5] at H
          have c5b0 : decide (x8_1 < a2) = false := decide_eq_false c5
          clear c5
          obtain rfl := Option.some.inj H
          go_wp2
          go_ret
          exact ⟨by first | rfl | (simp; done) | (simp [*]; done), by repeat (first | exact Drawn0.refl _ | apply Drawn0.step)⟩
      · rw [if_neg c4] at H
        have c4b0 : decide (x8_1 < (l1.length : Int)) = false := decide_eq_false c4
        clear c4
        obtain rfl := Option.some.inj H
        go_wp2
        go_ret
        exact ⟨by first | rfl | (simp; done) | (simp [*]; done), by repeat (first | exact Drawn0.refl _ | apply Drawn0.step)⟩

/-! ### laws_odWidths: function 14 -/
def laws_odWidths.f (a0 : Int) (a1 : Int) : Option (Int × Int) := some (Int.tmod (wrap64 (a0)) 3000, wrap64 (20 + (Int.tmod (wrap64 (a1)) 40)))
set_option maxHeartbeats 8000000 in
set_option maxRecDepth 100000 in
theorem laws_odWidths.calls (a0 : Int) (a1 : Int) (r1 : Int) (r2 : Int) (w : World) (h : laws_odWidths.f a0 a1 = some (r1, r2)) :
    Calls Tryz.prog 14 #[.int .u16 a0, .int .u8 a1] w fun e w' => e = .returned (.tuple #[.int .i64 r1, .int .i64 r2]) ∧ Drawn0 w w' := by
  have H : (some (Int.tmod (wrap64 (a0)) 3000, wrap64 (20 + (Int.tmod (wrap64 (a1)) 40)))) = some (r1, r2) := h
  clear h
  simp only [Option.some.injEq, Prod.mk.injEq] at H
  obtain ⟨rfl, rfl⟩ := H
  go_enter Tryz.func14, Tryz.ntmps14
  go_wp2
  go_ret2
  exact ⟨by first | rfl | (simp; done) | (simp [*]; done), by repeat (first | exact Drawn0.refl _ | apply Drawn0.step)⟩

-- NOT PRINTED: function 70 (oned_NewOneDimensionalCodeWriter)

-- NOT PRINTED: function 48 (oned_NewCodaBarWriter)

-- NOT PRINTED: function 49 (oned_NewCode39Writer)

-- NOT PRINTED: function 50 (oned_NewCode93Writer)

-- NOT PRINTED: function 51 (oned_NewCode128Writer)

-- NOT PRINTED: function 71 (oned_NewUPCEANWriter)

-- NOT PRINTED: function 52 (oned_NewEAN8Writer)

-- NOT PRINTED: function 53 (oned_NewEAN13Writer)

-- NOT PRINTED: function 54 (oned_NewITFWriter)

-- NOT PRINTED: function 55 (oned_NewUPCAWriter)

-- NOT PRINTED: function 56 (oned_NewUPCEWriter)

-- NOT PRINTED: function 29 (impl_writer)

/-- A state of type 100 at block g of W; what its slices lead to came in by w0. -/
def IsS100 (w0 W : World) (g : Nat) (f0 : List Int) (f1 : Int) : Prop := ∃ A0 c0, W.heap[g]? = some (.cells #[.slice A0 f0.length c0, .int .i64 f1] 100 (0, 0)) ∧ w0.heap.size ≤ g ∧ Kd.C (Kd.int .u32) w0 A0 f0.length f0
theorem IsS100.grown {w0 W : World} {g : Nat} {f0 : List Int} {f1 : Int} {W1 : World} {row : Option Nat} (h : IsS100 w0 W g f0 f1) (hw : W.grownBy W1 row) (hne : some g ≠ row) : IsS100 w0 W1 g f0 f1 := by
  obtain ⟨A0, c0, hb, hg, hr0⟩ := h
  exact ⟨A0, c0, blk_grown hb hw hne, hg, hr0⟩
theorem IsS100.own_neN {w0 W : World} {g : Nat} {f0 : List Int} {f1 : Int} {α : Type} {d : Kd α} {e : Nat} {base : Nat} {ok : Nat → Prop} {v : Value} {xs : List α} (h : IsS100 w0 W g f0 f1) (ho : Kd.N d e W base ok v xs) (ht : e ≠ 100) : some g ≠ v.ownBlock := by
  obtain ⟨A0, c0, hb, hg, hr0⟩ := h
  exact Kd.N_ne ho hb ht
theorem IsS100.fresh {w0 W : World} {g : Nat} {f0 : List Int} {f1 : Int} (h : IsS100 w0 W g f0 f1) : ∀ k, W.heap.size ≤ k → k ≠ g := by
  obtain ⟨A0, c0, hb, hg, hr0⟩ := h
  exact Kd.freshB hb
theorem IsS100.kept {w0 W : World} {g : Nat} {f0 : List Int} {f1 : Int} {W1 : World} {S : Nat → Prop} (h : IsS100 w0 W g f0 f1) (hk : Kept W W1 S) (hne : ¬ S g) : IsS100 w0 W1 g f0 f1 := by
  obtain ⟨A0, c0, hb, hg, hr0⟩ := h
  exact ⟨A0, c0, blk_kept hb hk hne, hg, hr0⟩
theorem IsS100.below {w0 W : World} {g : Nat} {f0 : List Int} {f1 : Int} {W1 : World} (h : IsS100 w0 W g f0 f1) (hw : Below W.heap.size W W1) : IsS100 w0 W1 g f0 f1 := h.grown (grown_of_below hw none) (by simp)
theorem IsS100.alloc {w0 W : World} {g : Nat} {f0 : List Int} {f1 : Int} (h : IsS100 w0 W g f0 f1) (o : Obj) : IsS100 w0 (W.alloc o) g f0 f1 := h.below (below_alloc (Below.refl _ _) o)
theorem IsS100.drewN {w0 W : World} {g : Nat} {f0 : List Int} {f1 : Int} (h : IsS100 w0 W g f0 f1) (m : Nat) : IsS100 w0 (W.drewN m) g f0 f1 := h
theorem IsS100.drew {w0 W : World} {g : Nat} {f0 : List Int} {f1 : Int} (h : IsS100 w0 W g f0 f1) : IsS100 w0 W.drew g f0 f1 := h
theorem IsS100.at_ {w0 W : World} {g : Nat} {f0 : List Int} {f1 : Int} {w' : World} {m : Nat} (hq : W.drewN m = w') (h : IsS100 w0 W g f0 f1) : IsS100 w0 w' g f0 f1 := by subst hq; exact IsS100.drewN h m
theorem IsS100.apart {w0 W : World} {g : Nat} {f0 : List Int} {f1 : Int} {α : Type} {d : Kd α} {e : Nat} {base : Nat} {ok : Nat → Prop} {v : Value} {xs : List α} (h : IsS100 w0 W g f0 f1) (ho : d.R e W base ok v xs) (ht : ∀ q, q ∈ e :: d.E → q ≠ 100) : d.R e W base (fun k => ok k ∧ k ≠ g) v xs := by
  obtain ⟨A0, c0, hb, hg, hr0⟩ := h
  exact Kd.R_types ho hb ht
theorem IsS100.own_ne {w0 W : World} {g : Nat} {f0 : List Int} {f1 : Int} {α : Type} {d : Kd α} {e : Nat} {base : Nat} {ok : Nat → Prop} {v : Value} {xs : List α} (h : IsS100 w0 W g f0 f1) (ho : d.R e W base ok v xs) (ht : e ≠ 100) : some g ≠ v.ownBlock := by
  obtain ⟨A0, c0, hb, hg, hr0⟩ := h
  exact Kd.R_ne ho hb ht
theorem IsS100.apartQ {w0 W : World} {g : Nat} {f0 : List Int} {f1 : Int} {α : Type} {d : Kd α} {e : Nat} {base : Nat} {ok : Nat → Prop} {v : Value} {xs : List α} (h : IsS100 w0 W g f0 f1) (ho : d.Q e W base ok v xs) (ht : ∀ q, q ∈ e :: d.E → q ≠ 100) : d.Q e W base (fun k => ok k ∧ k ≠ g) v xs := by
  obtain ⟨A0, c0, hb, hg, hr0⟩ := h
  exact Kd.Q_types ho hb ht
theorem IsS100.own_neQ {w0 W : World} {g : Nat} {f0 : List Int} {f1 : Int} {α : Type} {d : Kd α} {e : Nat} {base : Nat} {ok : Nat → Prop} {v : Value} {xs : List α} (h : IsS100 w0 W g f0 f1) (ho : d.Q e W base ok v xs) (ht : e ≠ 100) : some g ≠ v.ownBlock := by
  obtain ⟨A0, c0, hb, hg, hr0⟩ := h
  exact Kd.Q_ne ho hb ht
theorem IsS100.apartS {w0 W : World} {g : Nat} {f0 : List Int} {f1 : Int} {α : Type} {d : Kd α} {e : Nat} {base : Nat} {ok : Nat → Prop} {v : Value} {xs : List α} (h : IsS100 w0 W g f0 f1) (ho : d.S e W base ok v xs) (ht : ∀ q, q ∈ e :: d.E → q ≠ 100) : d.S e W base (fun k => ok k ∧ k ≠ g) v xs := by
  obtain ⟨A0, c0, hb, hg, hr0⟩ := h
  exact Kd.S_types ho hb ht
theorem IsS100.own_neS {w0 W : World} {g : Nat} {f0 : List Int} {f1 : Int} {α : Type} {d : Kd α} {e : Nat} {base : Nat} {ok : Nat → Prop} {v : Value} {xs : List α} (h : IsS100 w0 W g f0 f1) (ho : d.S e W base ok v xs) (ht : e ≠ 100) : some g ≠ v.ownBlock := by
  obtain ⟨A0, c0, hb, hg, hr0⟩ := h
  exact Kd.S_ne ho hb ht
theorem IsS100.lt {w0 W : World} {g : Nat} {f0 : List Int} {f1 : Int} (h : IsS100 w0 W g f0 f1) : g < W.heap.size := by
  obtain ⟨A0, c0, hb, hg, hr0⟩ := h
  exact blk_lt hb
theorem IsS100.ge {w0 W : World} {g : Nat} {f0 : List Int} {f1 : Int} (h : IsS100 w0 W g f0 f1) : w0.heap.size ≤ g := by
  obtain ⟨A0, c0, hb, hg, hr0⟩ := h
  exact hg
theorem IsS100.ne_blk {w0 W : World} {g : Nat} {f0 : List Int} {f1 : Int} {a : Nat} {cs : Array Value} {t : TypeId} {fr : Nat × Nat} (h : IsS100 w0 W g f0 f1) (hb2 : W.heap[a]? = some (.cells cs t fr)) (ht : t ≠ 100) : g ≠ a := by
  obtain ⟨A0, c0, hb, hg, hr0⟩ := h
  rintro rfl
  rw [hb] at hb2
  injection hb2 with hb2
  injection hb2 with _ ht2
  exact ht ht2.symm
theorem IsS100.far {w0 W : World} {g : Nat} {f0 : List Int} {f1 : Int} {p : Addr} (h : IsS100 w0 W g f0 f1) (hne : g ≠ p.block) (u : Value) : IsS100 w0 (W.setCell p u) g f0 f1 := by
  obtain ⟨A0, c0, hb, hg, hr0⟩ := h
  exact ⟨A0, c0, blk_far hb hne u, hg, hr0⟩
theorem cellS100_0 {W : World} {g : Nat} {A0 : Option Addr} {c0 : Nat} {f0 : List Int} {f1 : Int} (h : W.heap[g]? = some (.cells #[.slice A0 f0.length c0, .int .i64 f1] 100 (0, 0))) : W.cell? ⟨g, 0, none⟩ = some (.slice A0 f0.length c0) := (blk_cell h 0).trans rfl
theorem cellS100_1 {W : World} {g : Nat} {A0 : Option Addr} {c0 : Nat} {f0 : List Int} {f1 : Int} (h : W.heap[g]? = some (.cells #[.slice A0 f0.length c0, .int .i64 f1] 100 (0, 0))) : W.cell? ⟨g, 1, none⟩ = some (.int .i64 f1) := (blk_cell h 1).trans rfl
theorem IsS100.set_1 {w0 W : World} {g : Nat} {f0 : List Int} {f1 : Int} (h : IsS100 w0 W g f0 f1) (x : Int) : IsS100 w0 (W.setCell ⟨g, 1, none⟩ (.int .i64 x)) g f0 x := by
  obtain ⟨A0, c0, hb, hg, hr0⟩ := h
  exact ⟨A0, c0, by simpa using blk_set hb 1 (.int .i64 x), hg, hr0⟩
theorem IsS100.new (w0 W : World) (A0 : Option Addr) (c0 : Nat) (f0 : List Int) (f1 : Int) (hB : Below w0.heap.size w0 W) (hr0 : Kd.C (Kd.int .u32) w0 A0 f0.length f0) : IsS100 w0 (W.alloc (.cells #[.slice A0 f0.length c0, .int .i64 f1] 100)) W.heap.size f0 f1 := ⟨A0, c0, by simpa using heap_alloc_new W _, hB.size, hr0⟩
end Go.Proofs.YthkddnmomjcdaaaGreat.F
namespace Go.Proofs.YthkddnmomjcdaaaGreat.B
open Go.RowKit Go.Proofs.YthkddnmomjcdaaaGreatW.PrintWords Go.Proofs.YthkddnmomjcdaaaGreatW.PrintLast Go.Proofs.YthkddnmomjcdaaaGreatW.PrintMore
set_option linter.unusedVariables false
set_option linter.unusedSimpArgs false

/-! ### Texts of some signs -/
def some_ (signs : ByteArray) (l : List Int) (most : Nat) : List UInt8 := (l.take most).map fun v => signs.data.toList.getD (v % (signs.size : Int)).toNat 0
theorem ba_append (a b : ByteArray) : (a ++ b).data.toList = a.data.toList ++ b.data.toList := by simp [ByteArray.data_append]
theorem odSome_run (signs : ByteArray) (l : List Int) (most : Nat) (h0 : 0 < signs.size) (h1 : signs.size ≤ 1000) (hm : most ≤ 100000) (hl : ∀ v ∈ l, 0 ≤ v ∧ v ≤ 255) :
    ∀ (d i : Nat) (x : ByteArray), i + d = min l.length most → x.data.toList = some_ signs l i → Ev (fun k => F.spec_ODSome.l0 k signs l most x i) ⟨(some_ signs l most).toArray⟩ := by
  have hfin : ∀ (i : Nat) (x : ByteArray), i = min l.length most → x.data.toList = some_ signs l i → x = ⟨(some_ signs l most).toArray⟩ := by
    intro i x hi hx
    have e : some_ signs l i = some_ signs l most := by
      unfold some_
      congr 1
      rw [hi]
      rcases Nat.le_total l.length most with h | h
      · rw [Nat.min_eq_left h, List.take_of_length_le (Nat.le_refl _), List.take_of_length_le h]
      · rw [Nat.min_eq_right h]
    rw [e] at hx
    rw [← hx]
  intro d
  induction d with
  | zero =>
    intro i x hi hx
    rw [← hfin i x hi hx]
    refine Ev.step (f := fun _ => some x) (fun k => ?_) (Ev.now x)
    rw [F.spec_ODSome.l0]
    by_cases hc : (i : Int) < l.length
    · rw [if_pos hc, if_neg (by omega)]
    · rw [if_neg hc]
  | succ d ih =>
    intro i x hi hx
    have hil : i < l.length := by omega
    have him : i < most := by omega
    have hv := hl _ (rd_mem l (i : Int) (by simpa using hil))
    have hrd : rd l (i : Int) = l[i] := by simp [rd, List.getElem?_eq_getElem hil]
    have hw : wrap64 (rd l (i : Int)) = rd l i := by unfold wrap64; omega
    have ht : Int.tmod (rd l (i : Int)) (signs.size : Int) = rd l (i : Int) % (signs.size : Int) := Int.tmod_eq_emod_of_nonneg hv.1
    have hb0 : 0 ≤ rd l (i : Int) % (signs.size : Int) := Int.emod_nonneg _ (by omega)
    have hb1 : rd l (i : Int) % (signs.size : Int) < signs.size := Int.emod_lt_of_pos _ (by omega)
    obtain ⟨q, hq⟩ : ∃ q : Nat, rd l (i : Int) % (signs.size : Int) = q := ⟨(rd l (i : Int) % (signs.size : Int)).toNat, by omega⟩
    have hxs : x.size = i := by rw [← data_length, hx]; simp [some_]; omega
    have hex : (signs.extract q (q + 1)).data.toList = [signs.data.toList.getD q 0] := by
      have hql : q < signs.data.toList.length := by rw [data_length]; omega
      rw [Lib.extract_data, show q + 1 - q = 1 by omega, List.drop_eq_getElem_cons hql, List.getD_eq_getElem?_getD, List.getElem?_eq_getElem hql]
      rfl
    have hes : (signs.extract q (q + 1)).size = 1 := by rw [← data_length, hex]; rfl
    have hx2 : (x ++ signs.extract q (q + 1)).data.toList = some_ signs l (i + 1) := by
      rw [ba_append, hex, hx]
      unfold some_
      rw [List.take_succ_eq_append_getElem hil, List.map_append, List.map_singleton, ← hrd, hq, Int.toNat_natCast]
    refine Ev.step (fun k => ?_) (ih (i + 1) _ (by omega) hx2)
    rw [F.spec_ODSome.l0, if_pos (by omega), if_pos (by omega), if_pos (by omega), if_neg (by omega), hw, ht, hq, if_pos (by omega), show wrap64 ((q : Int) + 1) = ((q + 1 : Nat) : Int) by unfold wrap64; omega, if_pos (by omega), if_pos (by omega), Int.toNat_natCast, Int.toNat_natCast, hes, hxs, if_pos (by omega), show wrap64 ((i : Int) + 1) = ((i + 1 : Nat) : Int) by unfold wrap64; omega]

theorem odSome (w : World) (signs : ByteArray) (A : Option Addr) (c : Nat) (l : List Int) (most : Nat) (h0 : 0 < signs.size) (h1 : signs.size ≤ 1000) (hm : most ≤ 100000) (hl : ∀ v ∈ l, 0 ≤ v ∧ v ≤ 255)
    (hC : Kd.C (Kd.int .u8) w A l.length l) (hc : l.length ≤ c) :
    Calls Tryz.prog 25 #[.string signs, .slice A l.length c, .int .i64 (most : Int)] w fun e w' => e = .returned (.string ⟨(some_ signs l most).toArray⟩) ∧ Below w.heap.size w w' := by
  obtain ⟨k, hk⟩ := (odSome_run signs l most h0 h1 hm hl (min l.length most) 0 ⟨#[]⟩ (by omega) rfl).rounds
  refine (F.spec_ODSome.calls k signs A c l most _ w hC hc hk).mono ?_
  rintro e w' ⟨rfl, h⟩
  exact ⟨rfl, h.below⟩

def tenSigns : ByteArray := ⟨#[48, 49, 50, 51, 52, 53, 54, 55, 56, 57]⟩
def digs (l : List Int) : List Nat := let n := (min l.length 80) / 2 * 2; (l.take n).map fun v => (v % 10).toNat
theorem digs_len (l : List Int) : (digs l).length = 2 * (min l.length 80 / 2) := by simp [digs]; omega
def DigPost (l : List Int) (least : Int) (t : ByteArray) : Prop := if ((digs l).length : Int) < least then t = ⟨#[]⟩ else t.data.toList = (digs l).map (fun d => UInt8.ofNat (48 + d))
/-- The text of digits, or none if there are fewer than two. -/
theorem odDigits (w : World) (A : Option Addr) (c : Nat) (l : List Int) (least : Int) (hl : ∀ v ∈ l, 0 ≤ v ∧ v ≤ 255) (hC : Kd.C (Kd.int .u8) w A l.length l) (hc : l.length ≤ c) (h2 : least = 2 ∨ least = 6) :
    Calls Tryz.prog 22 #[.slice A l.length c, .int .i64 least] w fun e w' => ∃ t : ByteArray, e = .returned (.string t) ∧ Below w.heap.size w w' ∧
      DigPost l least t := by
  obtain ⟨r, hr⟩ : ∃ r : ByteArray, (⟨(some_ tenSigns l 80).toArray⟩ : ByteArray) = r := ⟨_, rfl⟩
  have hrd : r.data.toList = some_ tenSigns l 80 := by rw [← hr]
  have hrs : r.size = min l.length 80 := by rw [← data_length, hrd]; simp [some_]; omega
  obtain ⟨n, hn⟩ : ∃ n, min l.length 80 = n := ⟨_, rfl⟩
  rw [hn] at hrs
  have hn80 : n ≤ 80 := by omega
  have hes : (r.extract 0 (n / 2 * 2)).size = n / 2 * 2 := by
    rw [← data_length, Lib.extract_data, List.drop_zero, List.length_take, data_length, hrs]; omega
  have hdl := digs_len l
  rw [hn] at hdl
  have hed : (r.extract 0 (n / 2 * 2)).data.toList = (digs l).map (fun d => UInt8.ofNat (48 + d)) := by
    rw [Lib.extract_data, List.drop_zero, Nat.sub_zero, hrd]
    unfold some_ digs
    rw [← List.map_take, List.take_take, hn, show min (n / 2 * 2) 80 = n / 2 * 2 by omega, List.map_map]
    refine List.map_congr_left fun v hv => ?_
    have hv2 := hl v (List.mem_of_mem_take hv)
    have : ∀ q : Fin 10, tenSigns.data.toList.getD (q : Nat) 0 = UInt8.ofNat (48 + (q : Nat)) := by decide +kernel
    exact this ⟨(v % 10).toNat, by omega⟩
  have HES := Aside0.mk hes
  have HED := Aside0.mk hed
  have HDL := Aside0.mk hdl
  have HC := Aside0.mk hC
  have HR := Aside0.mk hr
  have HL := Aside0.mk hl
  have hrsI : (r.size : Int) = n := by omega
  have heI : ((r.extract 0 (n / 2 * 2)).size : Int) = (n : Int) / 2 * 2 := by omega
  have hds : ((digs l).length : Int) = (n : Int) / 2 * 2 := by omega
  have HDS := Aside0.mk hds
  clear hes hed hdl hC hr hrs hn hrd hl hds
  have hb1 : 0 ≤ (n : Int) / 2 * 2 ∧ (n : Int) / 2 * 2 ≤ n := by omega
  obtain ⟨hb1, hb2⟩ := hb1
  by_cases hlt : (n : Int) / 2 * 2 < least
  · have hdd : decide ((n : Int) / 2 * 2 < least) = true := decide_eq_true hlt
    have hd2 : decide (((min (n / 2 * 2) r.size : Nat) : Int) < least) = true := decide_eq_true (by omega)
    clear hlt
    go_enter Tryz.func22, Tryz.ntmps22
    go_wp2_with fail
    refine (odSome w tenSigns A c l 80 (by decide) (by decide) (by omega) HL.out HC.out hc).mono ?_
    rintro e w1 ⟨rfl, hb⟩
    rw [HR.out]
    have HB := Aside0.mk hb
    clear hb
    go_wp2
    go_ret
    exact ⟨_, rfl, HB.out, by unfold DigPost; rw [HDS.out, if_pos (of_decide_eq_true hdd)]⟩
  · have hdd : decide ((n : Int) / 2 * 2 < least) = false := decide_eq_false hlt
    have hd2 : decide (((min (n / 2 * 2) r.size : Nat) : Int) < least) = false := decide_eq_false (by omega)
    clear hlt
    go_enter Tryz.func22, Tryz.ntmps22
    go_wp2_with fail
    refine (odSome w tenSigns A c l 80 (by decide) (by decide) (by omega) HL.out HC.out hc).mono ?_
    rintro e w1 ⟨rfl, hb⟩
    rw [HR.out]
    have HB := Aside0.mk hb
    clear hb
    go_wp2
    go_ret
    exact ⟨_, rfl, HB.out, by unfold DigPost; rw [HDS.out, if_neg (of_decide_eq_false hdd)]; exact HED.out⟩

theorem loop_eq (bs : ByteArray) (i : Nat) (r : List UInt8) : ByteArray.toList.loop bs i r = r.reverse ++ bs.data.toList.drop i := by
  fun_induction ByteArray.toList.loop bs i r with
  | case1 i r h ih =>
    have hl : i < bs.data.toList.length := by rw [Array.length_toList]; exact h
    have hg : bs.get! i = bs.data.toList[i] := by
      show bs.data[i]! = _
      rw [getElem!_pos bs.data i (by simpa using hl)]
      simp
    rw [ih, List.drop_eq_getElem_cons hl, hg]
    simp
  | case2 i r h =>
    have hl : bs.data.toList.length ≤ i := by rw [Array.length_toList]; exact Nat.le_of_not_lt h
    rw [List.drop_of_length_le hl]
    simp
theorem ba_toList (t : ByteArray) : t.toList = t.data.toList := by
  have := loop_eq t 0 []
  simpa [ByteArray.toList] using this

def rFull (code : List Bool) (mg : Int) : Int := code.length + mg
def rOut (code : List Bool) (wd mg : Int) : Int := if rFull code mg < wd then wd else rFull code mg
def rMany (code : List Bool) (wd mg : Int) : Int := rOut code wd mg / rFull code mg
def rLeft (code : List Bool) (wd mg : Int) : Int := (rOut code wd mg - code.length * rMany code wd mg) / 2
/-- The row of a code: its modules, as wide as go in, in the middle. -/
def rowOf (code : List Bool) (wd mg : Int) : List Bool := rowList code (rLeft code wd mg) (rMany code wd mg) (rOut code wd mg).toNat
theorem rowOf_length (code : List Bool) (wd mg : Int) : (rowOf code wd mg).length = (rOut code wd mg).toNat := by simp [rowOf, rowList]
theorem rOut_ge (code : List Bool) (wd mg : Int) (q0 : 0 < (code.length : Int) + mg) (hm1 : mg ≤ 1000) (hw1 : wd ≤ 100000) (hlc : code.length ≤ 100000) : 0 < rOut code wd mg ∧ rOut code wd mg ≤ 200000 := by
  unfold rOut rFull; split <;> omega
theorem odRowOf (code : List Bool) (wd mg : Int) (q0 : 0 < (code.length : Int) + mg) (hm0 : 0 ≤ mg) (hm1 : mg ≤ 1000) (hw0 : 0 ≤ wd) (hw1 : wd ≤ 100000) (hlc : code.length ≤ 100000) :
    Ev (fun k => F.spec_ODRow.f k code wd mg) (rowOf code wd mg) :=
  odRow code wd mg (rFull code mg) (rOut code wd mg) (rMany code wd mg) (rLeft code wd mg) (rOut code wd mg).toNat q0 hm0 hm1 hw0 hw1 hlc rfl rfl rfl rfl (by have := rOut_ge code wd mg q0 hm1 hw1 hlc; omega)
theorem row_eqOf (code : List Bool) (wd mg : Int) (q0 : 0 < (code.length : Int) + mg) (hm0 : 0 ≤ mg) (hm1 : mg ≤ 1000) (hw1 : wd ≤ 100000) (hlc : code.length ≤ 100000) (R : Nat) (hR : (rOut code wd mg + 31) / 32 = (R : Int)) :
    unbits (cpy (paint code (rLeft code wd mg) (rMany code wd mg) (List.replicate R 0) code.length) (List.replicate R 0) 0 R) (rOut code wd mg).toNat = rowOf code wd mg := by
  have ho := rOut_ge code wd mg q0 hm1 hw1 hlc
  have hf : rFull code mg ≤ rOut code wd mg := by unfold rOut; split <;> omega
  have hf0 : 0 < rFull code mg := by unfold rFull; omega
  have hm : 1 ≤ rMany code wd mg := by unfold rMany; exact (Int.le_ediv_iff_mul_le (by omega)).2 (by omega)
  have hlm : (code.length : Int) * rMany code wd mg ≤ rOut code wd mg := by
    unfold rMany
    have h1 := Int.mul_ediv_self_le (x := rOut code wd mg) (k := rFull code mg) (by omega)
    have h4 := Int.mul_le_mul_of_nonneg_right (show (code.length : Int) ≤ rFull code mg by unfold rFull; omega) (show 0 ≤ rOut code wd mg / rFull code mg by exact Int.ediv_nonneg (by omega) (by omega))
    omega
  have hnn : 0 ≤ (code.length : Int) * rMany code wd mg := Int.mul_nonneg (by omega) (by omega)
  exact row_eq code _ _ R _ (by unfold rLeft; omega) hm (by unfold rLeft; omega) (by rw [← hR]; omega)

/-- The last step of a law that writes a row: the reference's row is the same. -/
theorem rowSame (w : World) (b : Nat) (code : List Bool) (wd mg : Int) (A : Option Addr) (c : Nat) (q0 : 0 < (code.length : Int) + mg) (hm1 : mg ≤ 1000) (hw1 : wd ≤ 100000) (hlc : code.length ≤ 100000)
    (hb : Blk w b 4 (bools (rowOf code wd mg)).toArray) (hC : Kd.C Kd.bool w A (rowOf code wd mg).length (rowOf code wd mg)) (hc : (rowOf code wd mg).length ≤ c) (N : Nat) (hN : (rowOf code wd mg).length = N) :
    Calls Tryz.prog 16 #[.slice (some ⟨b, 0, none⟩) N N, .slice A N c] w fun e w' => e = .returned (.bool true) ∧ Below w.heap.size w w' := by
  have hl := rowOf_length code wd mg
  have ho := rOut_ge code wd mg q0 hm1 hw1 hlc
  obtain ⟨k, hk⟩ := (sameBits (rowOf code wd mg) (by omega)).rounds
  subst hN
  refine (F.spec_BISameBits.calls k _ _ _ A c _ true w (C_bools hb (by omega)) (Nat.le_refl _) hC hc hk).mono ?_
  rintro e w' ⟨rfl, h⟩
  exact ⟨rfl, h.below⟩
theorem rowSpec (w : World) (code : List Bool) (wd mg : Int) (A : Option Addr) (c : Nat) (q0 : 0 < (code.length : Int) + mg) (hm0 : 0 ≤ mg) (hm1 : mg ≤ 1000) (hw0 : 0 ≤ wd) (hw1 : wd ≤ 100000) (hlc : code.length ≤ 100000)
    (n : Nat) (hn : code.length = n) (hC : Kd.C Kd.bool w A n code) (hc : n ≤ c) :
    Calls Tryz.prog 17 #[.slice A n c, .int .i64 wd, .int .i64 mg] w fun e w' => ∃ A' c', e = .returned (.slice A' (rowOf code wd mg).length c') ∧ (rowOf code wd mg).length ≤ c' ∧ Kd.C Kd.bool w' A' (rowOf code wd mg).length (rowOf code wd mg) ∧ Below w.heap.size w w' := by
  obtain ⟨k, hk⟩ := (odRowOf code wd mg q0 hm0 hm1 hw0 hw1 hlc).rounds
  subst hn
  refine (F.spec_ODRow.calls k A c code wd mg _ w hC hc hk).mono ?_
  rintro e w' ⟨v, rfl, hr, hb⟩
  obtain ⟨A', c', rfl, h1, h2⟩ := Kd.R_reads hr
  exact ⟨A', c', rfl, h1, h2, hb⟩
/-- The width and the margin. -/
theorem odWidths (w : World) (a b : Int) (ha : 0 ≤ a ∧ a ≤ 65535) (hb : 0 ≤ b ∧ b ≤ 255) :
    Calls Tryz.prog 14 #[.int .u16 a, .int .u8 b] w fun e w' => e = .returned (.tuple #[.int .i64 (a % 3000), .int .i64 (20 + b % 40)]) ∧ Below w.heap.size w w' := by
  refine (F.laws_odWidths.calls a b (a % 3000) (20 + b % 40) w ?_).mono ?_
  · unfold F.laws_odWidths.f
    have e1 : wrap64 a = a := by unfold wrap64; omega
    have e2 : wrap64 b = b := by unfold wrap64; omega
    rw [e1, e2, Int.tmod_eq_emod_of_nonneg ha.1, Int.tmod_eq_emod_of_nonneg hb.1]
    congr 2
    unfold wrap64; omega
  · rintro e w' ⟨rfl, h⟩
    exact ⟨rfl, h.below⟩

theorem wf_u8 {n : Int} (h : (Lit.int .u8 n).wf = true) : 0 ≤ n ∧ n ≤ 255 := by
  simp [Lit.wf, IntKind.min, IntKind.max, IntKind.bits, IntKind.signed] at h
  omega
theorem wf_u16 {n : Int} (h : (Lit.int .u16 n).wf = true) : 0 ≤ n ∧ n ≤ 65535 := by
  simp [Lit.wf, IntKind.min, IntKind.max, IntKind.bits, IntKind.signed] at h
  omega
theorem wf_bytes {l : List Int} (h : ∀ n ∈ l, (Lit.int .u8 n).wf = true) : ∀ v ∈ l, 0 ≤ v ∧ v ≤ 255 := fun v hv => wf_u8 (h v hv)

theorem fmts_c128 (w : World) :
    Calls Tryz.prog 154 #[.agg #[]] w fun e w' => e = .returned (.slice (some ⟨w.heap.size + 1, 0, none⟩) 1 1) ∧ w' = (w.alloc (.cells #[] 91)).alloc (.cells (nums .i64 [4]).toArray 49) := by
  go_enter Tryz.func154, Tryz.ntmps154
  go_wp2
  go_ret
  exact ⟨rfl, rfl⟩
theorem new_c128 (w : World) : Calls Tryz.prog 51 #[] w fun e w' => e = .returned (.iface 85 (.pointer (some ⟨w.heap.size, 0, none⟩))) ∧ w' = w.alloc (.cells #[.iface 91 (.agg #[]), .int .i64 10] 106) := by
  go_enter Tryz.func51, Tryz.ntmps51
  go_wp2_with (go_at_call 70; refine (newOdw _ _ _).mono ?_; rintro e w' ⟨rfl, rfl⟩)
  go_ret
  exact ⟨rfl, rfl⟩
theorem writer_c128 (w : World) : Calls Tryz.prog 29 #[.int .i64 4] w fun e w' => e = .returned (.iface 85 (.pointer (some ⟨w.heap.size, 0, none⟩))) ∧ w' = w.alloc (.cells #[.iface 91 (.agg #[]), .int .i64 10] 106) := by
  go_enter Tryz.func29, Tryz.ntmps29
  go_wp2_with (go_at_call 51; refine (new_c128 _).mono ?_; rintro e w' ⟨rfl, rfl⟩)
  go_ret
  exact ⟨rfl, rfl⟩
theorem meth1_c128 (W : World) : Sem.run Tryz.prog (method 315 91 (.agg #[]) "given.example/pub-quietzone/pub/gozxing/oned.getSupportedWriteFormats") W = .ok (154, .agg #[]) W := by kernel_rfl
theorem meth2_c128 (W : World) : Sem.run Tryz.prog (method 315 91 (.agg #[]) "given.example/pub-quietzone/pub/gozxing/oned.encodeWithHints") W = .ok (153, .agg #[]) W := by kernel_rfl

set_option maxHeartbeats 2000000 in
set_option maxRecDepth 100000 in
theorem encode_c128_ok (w : World) (g gm : Nat) (text : ByteArray) (wd mg : Int) (code : List Bool) (full out many left rs : Int) (R : Nat)
    (hg : Blk w g 106 #[.iface 91 (.agg #[]), .int .i64 10]) (hm : w.heap[gm]? = some (.map #[⟨.int .i64 5, .iface 3 (.int .i64 mg), 0⟩] 1)) (h0 : 0 < text.size) (h1 : 0 ≤ wd)
    (q0 : 0 < (code.length : Int) + mg) (hm0 : 0 ≤ mg) (hm1 : mg ≤ 1000) (hw1 : wd ≤ 100000) (hlc : code.length ≤ 100000)
    (hfull : (code.length : Int) + mg = full) (hout : (if full < wd then wd else full) = out) (hmany : out / full = many) (hleft : (out - code.length * many) / 2 = left) (hrs : (out + 31) / 32 = rs) (hR : rs = (R : Int))
    (henc : ∀ W : World, W.heap[gm]? = some (.map #[⟨.int .i64 5, .iface 3 (.int .i64 mg), 0⟩] 1) → Calls Tryz.prog 153 #[.agg #[], .string text, .map (some gm)] W fun e w' => ∃ v, e = .returned (.tuple #[v, .nilIface]) ∧ Kd.R Kd.bool 4 w' W.heap.size (fun _ => True) v code ∧ Below W.heap.size W w') :
    Calls Tryz.prog 94 #[.pointer (some ⟨g, 0, none⟩), .string text, .int .i64 4, .int .i64 wd, .int .i64 1, .map (some gm)] w fun e w' => ∃ b, w.heap.size ≤ b ∧ e = .returned (.tuple #[.pointer (some ⟨b + 1, 0, none⟩), .nilIface]) ∧ Blk w' b 78 (nums .u32 (paint code left many (List.replicate R 0) code.length)).toArray ∧ Blk w' (b + 1) 75 #[.int .i64 out, .int .i64 1, .int .i64 rs, .slice (some ⟨b, 0, none⟩) R R] ∧ Below w.heap.size w w' := by
  have c0 : w.cell? ⟨g, 0, none⟩ = some (.iface 91 (.agg #[])) := hg.cell 0
  have hlen : ((text.size : Int) == 0) = false := beq_eq_false_iff_ne.mpr (by omega)
  have hwd : decide (wd < 0) = false := decide_eq_false (by omega)
  have m1 := meth1_c128
  have HG := Aside0.mk hg
  have HM := Aside0.mk hm
  have HE := Aside0.mk henc
  clear hg hm henc
  have HH := Aside0.mk (⟨hfull, hout, hmany, hleft, hrs, hR⟩ : _ ∧ _ ∧ _ ∧ _ ∧ _ ∧ _)
  clear hfull hout hmany hleft hrs hR
  go_enter Tryz.func94, Tryz.ntmps94
  go_wp2_with fail
  refine (fmts_c128 w).mono ?_
  rintro e w1 ⟨rfl, hw1⟩
  have hb1 : Below w.heap.size w w1 := by rw [hw1]; exact below_alloc (below_alloc (Below.refl _ _) _) _
  have hf : Blk w1 (w.heap.size + 1) 49 (nums .i64 [4]).toArray := by
    rw [hw1]
    have := Blk.new (w.alloc (.cells #[] 91)) 49 (nums .i64 [4]).toArray
    simpa using this
  clear hw1 c0 m1
  have HB1 := Aside0.mk hb1
  have HF := Aside0.mk hf
  clear hb1 hf
  go_wp2_with fail
  refine (contains1 w1 (w.heap.size + 1) 4 HF.out).mono ?_
  rintro e w2 ⟨rfl, hb2⟩
  have HB2 := Aside0.mk (HB1.out.trans (hb2.mono HB1.out.size))
  clear hb2
  have hg2 := HG.out.below HB2.out HG.out.lt
  have c0 : w2.cell? ⟨g, 0, none⟩ = some (.iface 91 (.agg #[])) := hg2.cell 0
  have c1 : w2.cell? ⟨g, 1, none⟩ = some (.int .i64 10) := hg2.cell 1
  have hl := run_lk w2 gm (.iface 3 (.int .i64 mg)) ((HB2.out.block gm (blk_lt HM.out)).trans HM.out)
  have ha := run_ta mg
  have m2 := meth2_c128
  clear hg2
  go_wp2_with fail
  refine (HE.out w2 ((HB2.out.block gm (Array.getElem?_eq_some_iff.1 HM.out).1).trans HM.out)).mono ?_
  rintro e w3 ⟨v, rfl, hr, hb3⟩
  obtain ⟨A, c, rfl, hcl, hc⟩ := Kd.R_reads hr
  have HB3 := Aside0.mk (HB2.out.trans (hb3.mono HB2.out.size))
  have HC := Aside0.mk hc
  clear hc hcl hr hb3 c0 c1 hl
  go_wp2_with fail
  obtain ⟨hfull, hout, hmany, hleft, hrs, hR⟩ := HH.out
  refine (render w3 A c code wd mg full out many left rs R HC.out q0 hm0 hm1 h1 hw1 hlc hfull hout hmany hleft hrs hR).mono ?_
  clear hfull hout hmany hleft hrs hR
  rintro e w4 ⟨rfl, hx1, hx2, hb4⟩
  have HX1 := Aside0.mk hx1
  have HX2 := Aside0.mk hx2
  have HB4 := Aside0.mk (HB3.out.trans (hb4.mono HB3.out.size))
  clear hx1 hx2 hb4
  go_wp2
  go_ret2
  exact ⟨_, HB3.out.size, rfl, HX1.out, HX2.out, HB4.out⟩

set_option maxHeartbeats 2000000 in
set_option maxRecDepth 100000 in
theorem encode_c128_no (w : World) (g gm : Nat) (text : ByteArray) (wd mg : Int) 
    (hg : Blk w g 106 #[.iface 91 (.agg #[]), .int .i64 10]) (hm : w.heap[gm]? = some (.map #[⟨.int .i64 5, .iface 3 (.int .i64 mg), 0⟩] 1)) (h0 : 0 < text.size) (h1 : 0 ≤ wd)
    (henc : ∀ W : World, W.heap[gm]? = some (.map #[⟨.int .i64 5, .iface 3 (.int .i64 mg), 0⟩] 1) → Calls Tryz.prog 153 #[.agg #[], .string text, .map (some gm)] W fun e w' => ∃ v x, e = .returned (.tuple #[v, .iface 141 x]) ∧ Below W.heap.size W w') :
    Calls Tryz.prog 94 #[.pointer (some ⟨g, 0, none⟩), .string text, .int .i64 4, .int .i64 wd, .int .i64 1, .map (some gm)] w fun e w' => (∃ x, e = .returned (.tuple #[.pointer none, .iface 141 x])) ∧ Below w.heap.size w w' := by
  have c0 : w.cell? ⟨g, 0, none⟩ = some (.iface 91 (.agg #[])) := hg.cell 0
  have hlen : ((text.size : Int) == 0) = false := beq_eq_false_iff_ne.mpr (by omega)
  have hwd : decide (wd < 0) = false := decide_eq_false (by omega)
  have m1 := meth1_c128
  have HG := Aside0.mk hg
  have HM := Aside0.mk hm
  have HE := Aside0.mk henc
  clear hg hm henc
  go_enter Tryz.func94, Tryz.ntmps94
  go_wp2_with fail
  refine (fmts_c128 w).mono ?_
  rintro e w1 ⟨rfl, hw1⟩
  have hb1 : Below w.heap.size w w1 := by rw [hw1]; exact below_alloc (below_alloc (Below.refl _ _) _) _
  have hf : Blk w1 (w.heap.size + 1) 49 (nums .i64 [4]).toArray := by
    rw [hw1]
    have := Blk.new (w.alloc (.cells #[] 91)) 49 (nums .i64 [4]).toArray
    simpa using this
  clear hw1 c0 m1
  have HB1 := Aside0.mk hb1
  have HF := Aside0.mk hf
  clear hb1 hf
  go_wp2_with fail
  refine (contains1 w1 (w.heap.size + 1) 4 HF.out).mono ?_
  rintro e w2 ⟨rfl, hb2⟩
  have HB2 := Aside0.mk (HB1.out.trans (hb2.mono HB1.out.size))
  clear hb2
  have hg2 := HG.out.below HB2.out HG.out.lt
  have c0 : w2.cell? ⟨g, 0, none⟩ = some (.iface 91 (.agg #[])) := hg2.cell 0
  have c1 : w2.cell? ⟨g, 1, none⟩ = some (.int .i64 10) := hg2.cell 1
  have hl := run_lk w2 gm (.iface 3 (.int .i64 mg)) ((HB2.out.block gm (blk_lt HM.out)).trans HM.out)
  have ha := run_ta mg
  have m2 := meth2_c128
  clear hg2
  go_wp2_with fail
  refine (HE.out w2 ((HB2.out.block gm (Array.getElem?_eq_some_iff.1 HM.out).1).trans HM.out)).mono ?_
  rintro e w3 ⟨v, x, rfl, hb3⟩
  have HB3 := Aside0.mk (HB2.out.trans (hb3.mono HB2.out.size))
  clear hb3 c0 c1 hl
  go_wp2
  go_ret2
  exact ⟨⟨_, rfl⟩, HB3.out⟩

set_option maxHeartbeats 2000000 in
set_option maxRecDepth 100000 in
theorem odWrite_c128_ok (w : World) (text : ByteArray) (wd mg : Int) (code : List Bool) (full out many left rs : Int) (R OUT : Nat) (h0 : 0 < text.size) (h1 : 0 ≤ wd)
    (q0 : 0 < (code.length : Int) + mg) (hm0 : 0 ≤ mg) (hm1 : mg ≤ 1000) (hw1 : wd ≤ 100000) (hlc : code.length ≤ 100000)
    (hfull : (code.length : Int) + mg = full) (hout : (if full < wd then wd else full) = out) (hmany : out / full = many) (hleft : (out - code.length * many) / 2 = left) (hrs : (out + 31) / 32 = rs) (hR : rs = (R : Int)) (hOUT : out = (OUT : Int))
    (henc : ∀ (gm : Nat) (W : World), W.heap[gm]? = some (.map #[⟨.int .i64 5, .iface 3 (.int .i64 mg), 0⟩] 1) → Calls Tryz.prog 153 #[.agg #[], .string text, .map (some gm)] W fun e w' => ∃ v, e = .returned (.tuple #[v, .nilIface]) ∧ Kd.R Kd.bool 4 w' W.heap.size (fun _ => True) v code ∧ Below W.heap.size W w') :
    Calls Tryz.prog 15 #[.int .i64 4, .string text, .int .i64 wd, .int .i64 mg] w fun e w' => ∃ b, e = .returned (.tuple #[.slice (some ⟨b, 0, none⟩) OUT OUT, .bool true]) ∧ Blk w' b 4 (bools (unbits (cpy (paint code left many (List.replicate R 0) code.length) (List.replicate R 0) 0 R) OUT)).toArray ∧ Below w.heap.size w w' := by
  have hmm := @run_makeMap Tryz.prog
  have HE := Aside0.mk henc
  clear henc
  have HH := Aside0.mk (⟨hfull, hout, hmany, hleft, hrs, hR, hOUT⟩ : _ ∧ _ ∧ _ ∧ _ ∧ _ ∧ _ ∧ _)
  have hob : 0 ≤ out ∧ out ≤ 200000 := by split at hout <;> omega
  obtain ⟨hob1, hob2⟩ := hob
  clear hfull hout hmany hleft hrs hR hOUT
  go_enter Tryz.func15, Tryz.ntmps15
  go_wp2_with fail
  refine (writer_c128 w).mono ?_
  rintro e w1 ⟨rfl, hw1⟩
  have hi := run_ins w1 (.iface 3 (.int .i64 mg))
  have hq := methE w.heap.size
  have hb1 : Below w.heap.size w w1 := by rw [hw1]; exact below_alloc (Below.refl _ _) _
  have hg : Blk w1 w.heap.size 106 #[.iface 91 (.agg #[]), .int .i64 10] := by rw [hw1]; exact Blk.new _ _ _
  have HB1 := Aside0.mk hb1
  have HG := Aside0.mk hg
  clear hw1 hb1 hg
  go_wp2_with fail
  obtain ⟨hfull, hout, hmany, hleft, hrs, hR, hOUT⟩ := HH.out
  have hma : Below w1.heap.size w1 (w1.alloc (.map #[⟨.int .i64 5, .iface 3 (.int .i64 mg), 0⟩] 1)) := below_alloc (Below.refl _ _) _
  refine (encode_c128_ok _ w.heap.size w1.heap.size text wd mg code full out many left rs R (HG.out.below hma HG.out.lt) (heap_alloc_new _ _) h0 h1 q0 hm0 hm1 hw1 hlc hfull hout hmany hleft hrs hR (HE.out _)).mono ?_
  rintro e w2 ⟨b, hb, rfl, hx1, hx2, hb2⟩
  have hl : (paint code left many (List.replicate R 0) code.length).length = R := by rw [paint_length, List.length_replicate]
  have HX1 := Aside0.mk hx1
  have HX2 := Aside0.mk hx2
  have HB2 := Aside0.mk (HB1.out.trans ((hma.mono HB1.out.size).trans (hb2.mono (Nat.le_trans HB1.out.size hma.size))))
  have HLL := Aside0.mk hl
  clear hfull hout hmany hleft hrs hR hOUT hma hx1 hx2 hb2 hl hi hmm hq hb
  go_wp2_with fail
  obtain ⟨hfull, hout, hmany, hleft, hrs, hR, hOUT⟩ := HH.out
  refine (getRow w2 (b + 1) b out 1 rs 0 _ R R HX2.out HX1.out HLL.out (by omega) hrs hR (by omega) (by omega) (by omega) (by omega) (by omega)).mono ?_
  rintro e w3 ⟨rfl, hy1, hy2, hb3, hsz⟩
  rw [Int.zero_mul] at hy1
  have hl2 : (cpy (paint code left many (List.replicate R 0) code.length) (List.replicate R 0) 0 R).length = R := by rw [cpy_length, List.length_replicate]
  have HY1 := Aside0.mk hy1
  rw [hOUT] at hy2
  have HY2 := Aside0.mk hy2
  have HB3 := Aside0.mk (HB2.out.trans (hb3.mono HB2.out.size))
  have HL2 := Aside0.mk hl2
  have h32 : ((OUT : Int) + 31) / 32 = R := by rw [← hOUT, hrs, hR]
  have H32 := Aside0.mk h32
  have hou : OUT ≤ 200000 := by omega
  clear hfull hout hmany hleft hrs hR hy1 hy2 hb3 hsz hl2 h32 HLL hOUT
  go_wp2_with fail
  refine (toBools w3 _ _ OUT _ R HY2.out HY1.out HL2.out (by have := H32.out; omega) (by omega) H32.out).mono ?_
  rintro e w4 ⟨rfl, hz, hb4⟩
  have HZ := Aside0.mk hz
  have HB4 := Aside0.mk (HB3.out.trans (hb4.mono HB3.out.size))
  clear hz hb4
  go_wp2
  go_ret2
  exact ⟨_, rfl, HZ.out, HB4.out⟩

set_option maxHeartbeats 2000000 in
set_option maxRecDepth 100000 in
theorem odWrite_c128_no (w : World) (text : ByteArray) (wd mg : Int) (h0 : 0 < text.size) (h1 : 0 ≤ wd)
    (henc : ∀ (gm : Nat) (W : World), W.heap[gm]? = some (.map #[⟨.int .i64 5, .iface 3 (.int .i64 mg), 0⟩] 1) → Calls Tryz.prog 153 #[.agg #[], .string text, .map (some gm)] W fun e w' => ∃ v x, e = .returned (.tuple #[v, .iface 141 x]) ∧ Below W.heap.size W w') :
    Calls Tryz.prog 15 #[.int .i64 4, .string text, .int .i64 wd, .int .i64 mg] w fun e w' => e = .returned (.tuple #[.slice none 0 0, .bool false]) ∧ Below w.heap.size w w' := by
  have hmm := @run_makeMap Tryz.prog
  have HE := Aside0.mk henc
  clear henc
  go_enter Tryz.func15, Tryz.ntmps15
  go_wp2_with fail
  refine (writer_c128 w).mono ?_
  rintro e w1 ⟨rfl, hw1⟩
  have hi := run_ins w1 (.iface 3 (.int .i64 mg))
  have hq := methE w.heap.size
  have hb1 : Below w.heap.size w w1 := by rw [hw1]; exact below_alloc (Below.refl _ _) _
  have hg : Blk w1 w.heap.size 106 #[.iface 91 (.agg #[]), .int .i64 10] := by rw [hw1]; exact Blk.new _ _ _
  have HB1 := Aside0.mk hb1
  have HG := Aside0.mk hg
  clear hw1 hb1 hg
  go_wp2_with fail
  have hma : Below w1.heap.size w1 (w1.alloc (.map #[⟨.int .i64 5, .iface 3 (.int .i64 mg), 0⟩] 1)) := below_alloc (Below.refl _ _) _
  refine (encode_c128_no _ w.heap.size w1.heap.size text wd mg (HG.out.below hma HG.out.lt) (heap_alloc_new _ _) h0 h1 (HE.out _)).mono ?_
  rintro e w2 ⟨⟨x, rfl⟩, hb2⟩
  have HB2 := Aside0.mk (HB1.out.trans ((hma.mono HB1.out.size).trans (hb2.mono (Nat.le_trans HB1.out.size hma.size))))
  clear hma hb2 hi hmm hq
  go_wp2
  go_ret2
  exact ⟨rfl, HB2.out⟩

/-- ODWrite of the format 4: the row of the code. -/
theorem odRowW_c128 (w : World) (text : ByteArray) (wd mg : Int) (code : List Bool) (h0 : 0 < text.size) (h1 : 0 ≤ wd)
    (q0 : 0 < (code.length : Int) + mg) (hm0 : 0 ≤ mg) (hm1 : mg ≤ 1000) (hw1 : wd ≤ 100000) (hlc : code.length ≤ 100000)
    (henc : ∀ (gm : Nat) (W : World), W.heap[gm]? = some (.map #[⟨.int .i64 5, .iface 3 (.int .i64 mg), 0⟩] 1) → Calls Tryz.prog 153 #[.agg #[], .string text, .map (some gm)] W fun e w' => ∃ v, e = .returned (.tuple #[v, .nilIface]) ∧ Kd.R Kd.bool 4 w' W.heap.size (fun _ => True) v code ∧ Below W.heap.size W w') :
    Calls Tryz.prog 15 #[.int .i64 4, .string text, .int .i64 wd, .int .i64 mg] w fun e w' => ∃ b, e = .returned (.tuple #[.slice (some ⟨b, 0, none⟩) (rowOf code wd mg).length (rowOf code wd mg).length, .bool true]) ∧ Blk w' b 4 (bools (rowOf code wd mg)).toArray ∧ Below w.heap.size w w' := by
  have ho := rOut_ge code wd mg q0 hm1 hw1 hlc
  refine (odWrite_c128_ok w text wd mg code (rFull code mg) (rOut code wd mg) (rMany code wd mg) (rLeft code wd mg) ((rOut code wd mg + 31) / 32) ((rOut code wd mg + 31) / 32).toNat (rOut code wd mg).toNat h0 h1 q0 hm0 hm1 hw1 hlc rfl rfl rfl rfl rfl (by omega) (by omega) henc).mono ?_
  rintro e w' ⟨b, rfl, hb, hw⟩
  rw [row_eqOf code wd mg q0 hm0 hm1 hw1 hlc _ (by omega)] at hb
  exact ⟨b, by rw [rowOf_length], hb, hw⟩
end Go.Proofs.YthkddnmomjcdaaaGreat.B
namespace Go.Proofs.YthkddnmomjcdaaaGreat.F
open Go.RowKit Go.Proofs.YthkddnmomjcdaaaGreatW.PrintWords Go.Proofs.YthkddnmomjcdaaaGreatW.PrintLast Go.Proofs.YthkddnmomjcdaaaGreatW.PrintMore
attribute [local go_sem] max2_int min2_int max_two min_two max_three min_three max_four min_four   -- for this text's walks alone
set_option linter.unusedVariables false
set_option linter.unusedSimpArgs false

/-! ### spec_ODAscii: function 13 -/
def spec_ODAscii.l0 : Nat → List Int → Int → List Int → Int → Option (ByteArray)
  | 0, _, _, _, _ => none
  | k + 1, x0, x1, x5, x6 => if x6 < (x0.length : Int) then (if x6 < x1 then (if 0 ≤ x6 then (if x5.length < 140737488355328 then (spec_ODAscii.l0 k x0 x1 (x5 ++ [Int.tmod (rd x0 x6) 128]) (wrap64 (x6 + 1))) else (none)) else (none)) else (some (strOfNums x5))) else (some (strOfNums x5))
def spec_ODAscii.f (k : Nat) (l0 : List Int) (a1 : Int) : Option (ByteArray) := spec_ODAscii.l0 k l0 a1 ([] : List Int) 0
theorem spec_ODAscii.mono_l : ∀ k, (∀ y0 y1 y2 y3, LeO (spec_ODAscii.l0 k y0 y1 y2 y3) (spec_ODAscii.l0 (k + 1) y0 y1 y2 y3))
  | 0 => fun _ _ _ _ r h => by simp [spec_ODAscii.l0] at h
  | k + 1 => by
    have ih0 := spec_ODAscii.mono_l k
    · intro y0 y1 y2 y3
      unfold spec_ODAscii.l0
      repeat' first
      | (with_reducible exact ih0 _ _ _ _)
      | (with_reducible exact LeO.refl _)
      | (with_reducible exact LeO.none _)
      | (with_reducible refine LeO.ite ?_ ?_)
      | (with_reducible refine LeO.bind ?_ (fun _ => ?_))
      | exact ih0 _ _ _ _
      | exact LeO.none _
      | refine LeO.ite ?_ ?_
      | refine LeO.bind ?_ (fun _ => ?_)
theorem spec_ODAscii.mono : ∀ a0 a1 k, LeO (spec_ODAscii.f k a0 a1) (spec_ODAscii.f (k + 1) a0 a1) := by
  intro a0 a1 k
  have ih0 := spec_ODAscii.mono_l k
  unfold spec_ODAscii.f
  repeat' first
      | (with_reducible exact ih0 _ _ _ _)
      | (with_reducible exact LeO.refl _)
      | (with_reducible exact LeO.none _)
      | (with_reducible refine LeO.ite ?_ ?_)
      | (with_reducible refine LeO.bind ?_ (fun _ => ?_))
      | exact ih0 _ _ _ _
      | exact LeO.none _
      | refine LeO.ite ?_ ?_
      | refine LeO.bind ?_ (fun _ => ?_)
set_option maxHeartbeats 8000000 in
set_option maxRecDepth 100000 in
theorem spec_ODAscii.calls (k : Nat) (A0 : Option Addr) (c0 : Nat) (l0 : List Int) (a1 : Int) (r : ByteArray) (w : World) (hr0 : Kd.C (Kd.int .u8) w A0 l0.length l0) (hc0 : l0.length ≤ c0) (h : spec_ODAscii.f k l0 a1 = some r) :
    Calls Tryz.prog 13 #[.slice A0 l0.length c0, .int .i64 a1] w fun e w' => e = .returned (.string r) ∧ Below w.heap.size w w' := by
  have HR0 := Aside0.mk hr0
  have HC0 := Aside0.mk hc0
  clear hr0 hc0
  have HB := Aside0.mk (Below.refl w.heap.size w)
  have H : (spec_ODAscii.l0 k l0 a1 ([] : List Int) 0) = some r := h
  clear h
  have H' := Aside0.mk H
  clear H
  go_enter Tryz.func13, Tryz.ntmps13
  go_wp2
  go_loopg [5, 6] k (fun kq v5 v6 w' => ∃ (x5_1 : List Int) (x6_1 : Int), v6 = .int .i64 x6_1 ∧ Aside0 (spec_ODAscii.l0 kq l0 a1 x5_1 x6_1 = some r) ∧ Aside0 (kq ≤ k) ∧ Aside0 (Kd.R (Kd.int .u8) 5 w' w.heap.size (fun _ => True) v5 x5_1) ∧ Aside0 (Below w.heap.size w w'))
  case atStart => exact ⟨(([] : List Int)), (0), (by first | rfl | (simp; done) | (simp [*]; done)), H', ⟨Nat.le_refl _⟩, ⟨by first | exact Kd.R_nil _ _ _ _ _ | exact Kd.N_nil _ _ _ _ _ | exact Kd.V_nil _ _ _ _ _ | exact Kd.Q_nil _ _ _ _ _ | exact Kd.S_nil _ _ _ _ _⟩, ⟨by repeat (first | (with_reducible first | exact HB.out | apply below_alloc | apply pw_below_drewN | apply below_drew1) | exact HB.out)⟩⟩
  case round =>
    clear H'
    try clear c1
    try clear p2
    obtain ⟨x5_1, x6_1, rfl, HA, HK1, HO_5, HB⟩ := hrel
    cases gk with
    | zero => exact absurd HA.out (by simp [spec_ODAscii.l0])
    | succ k1 =>
      have H := HA.out
      clear HA
      simp only [spec_ODAscii.l0] at H
      by_cases c3 : x6_1 < (l0.length : Int)
      · rw [if_pos c3] at H
        have c3b0 : decide (x6_1 < (l0.length : Int)) = true := decide_eq_true c3
        clear c3
        by_cases c4 : x6_1 < a1
        · rw [if_pos c4] at H
          have c4b0 : decide (x6_1 < a1) = true := decide_eq_true c4
          clear c4
          by_cases c5 : 0 ≤ x6_1
          · rw [if_pos c5] at H
            have c5b0 : decide (0 ≤ x6_1) = true := decide_eq_true c5
            clear c5
            by_cases c6 : x5_1.length < 140737488355328
            · rw [if_pos c6] at H
              have LMc6 := Aside0.mk c6
              clear c6
              obtain ⟨y102, hy102⟩ : ∃ y_ : List Int, y_ = (x5_1 ++ [Int.tmod (rd l0 x6_1) 128]) := ⟨_, rfl⟩
              replace H : (spec_ODAscii.l0 k1 l0 a1 y102 (wrap64 (x6_1 + 1))) = some r := by first | (rw [hy102]; with_reducible exact H) | (have H2_ := (Option.bind_some _ _).symm.trans H; rw [hy102]; with_reducible exact H2_) | (have H2_ := (Option.bind_some _ _).symm.trans H; with_reducible exact H2_) | with_reducible exact H | (rw [hy102]; exact H) | exact H
              have Ny102 := Aside0.mk hy102
              clear hy102
              have H' := Aside0.mk H
              clear H
              have p101 : 0 ≤ (x6_1 : Int) := of_decide_eq_true (by first | (with_reducible assumption) | assumption)
              have q101 : x6_1 < (l0.length : Int) := of_decide_eq_true (by first | (with_reducible assumption) | assumption)
              obtain ⟨ad101, e101, hx101_0⟩ := Kd.at_int HR0.out x6_1 p101 q101
              cases e101
              replace hx101_0 := (HB.out.cell (World.block_lt_of_cell? w _ hx101_0)).trans hx101_0
              replace p101 := eq_true p101
              replace q101 := eq_true q101
              go_wp2_with (first | ((with_reducible refine gate_builtin (b := .append) (xs := #[.tmp 18, .tmp 24]) rfl ?_); at_builtin; refine Kd.R_append (Kd.int .u8) (w0 := w) w.heap.size rfl (.tmp 18) (.tmp 24) 22 5 (.int .u8 0) 1 rfl Tryz.underlying22 info5 rfl (by decide) (by omega) u5 x5_1 (Int.tmod (rd l0 x6_1) 128) [.int .u8 (Int.tmod (rd l0 x6_1) 128)] (fun _ => True) (fun _ => False) rfl rfl ?aP (fun _ hk => hk.elim) ?aF ?aO ?aB ?aS ?aL ?_; (case aP => exact rfl); (case aB => exact (by repeat (first | (with_reducible first | exact HB.out | apply below_alloc | apply pw_below_drewN | apply below_drew1) | exact HB.out))); (case aF => exact (fun _ _ => trivial)); (case aO => exact (by (with_reducible repeat (first | apply Kd.R_alloc | apply Kd.R_drewN | apply Kd.R_drew)); exact HO_5.out)); (case aS => exact (below_size (by repeat (first | (with_reducible first | exact HB.out | apply below_alloc | apply pw_below_drewN | apply below_drew1) | exact HB.out)))); (case aL => have := LMc6.out; omega); intro v103 w7 ho hb hg hat; rw [← Ny102.out] at ho; have n0_ := Aside0.mk (hb); have n1_ := Aside0.mk (ho); clear HB; clear HO_5; have HB := n0_; have HO104 := n1_; clear n0_ n1_; clear ho hb hg hat))
              go_roundg k1
              case measure => have := HK1.out; omega
              case rel => exact ⟨(y102), (wrap64 (x6_1 + 1)), (by first | rfl | (simp; done) | (simp [*]; done)), H', ⟨by have := HK1.out; omega⟩, ⟨by (with_reducible repeat (first | apply Kd.R_alloc | apply Kd.R_drewN | apply Kd.R_drew)); exact HO104.out⟩, ⟨by repeat (first | (with_reducible first | exact HB.out | apply below_alloc | apply pw_below_drewN | apply below_drew1) | exact HB.out)⟩⟩
            · rw [if_neg c6] at H
              exact absurd H (by simp)
          · rw [if_neg c5] at H
            exact absurd H (by simp)
        · rw [if_neg c4] at H
          have c4b0 : decide (x6_1 < a1) = false := decide_eq_false c4
          clear c4
          obtain rfl := Option.some.inj H
          have hcv8 := own_string (P := Tryz.prog) Tryz.underlying22 Tryz.underlying5 Tryz.underlying9 (Kd.own_of_R HO_5.out)
          go_wp2
          go_ret
          exact ⟨by first | rfl | (simp [errW_none, errW_some] <;> rfl) | (simp [*, errW_none, errW_some] <;> rfl), by repeat (first | (with_reducible first | exact HB.out | apply below_alloc | apply pw_below_drewN | apply below_drew1) | exact HB.out)⟩
      · rw [if_neg c3] at H
        have c3b0 : decide (x6_1 < (l0.length : Int)) = false := decide_eq_false c3
        clear c3
        obtain rfl := Option.some.inj H
        have hcv9 := own_string (P := Tryz.prog) Tryz.underlying22 Tryz.underlying5 Tryz.underlying9 (Kd.own_of_R HO_5.out)
        go_wp2
        go_ret
        exact ⟨by first | rfl | (simp [errW_none, errW_some] <;> rfl) | (simp [*, errW_none, errW_some] <;> rfl), by repeat (first | (with_reducible first | exact HB.out | apply below_alloc | apply pw_below_drewN | apply below_drew1) | exact HB.out)⟩
end Go.Proofs.YthkddnmomjcdaaaGreat.F
namespace Go.Proofs.YthkddnmomjcdaaaGreat.B
open Go.RowKit Go.Proofs.YthkddnmomjcdaaaGreatW.PrintWords Go.Proofs.YthkddnmomjcdaaaGreatW.PrintLast Go.Proofs.YthkddnmomjcdaaaGreatW.PrintMore
set_option linter.unusedVariables false
set_option linter.unusedSimpArgs false

/-! ### Texts of bytes below 128 -/
def asc (l : List Int) (most : Nat) : List Int := (l.take most).map (· % 128)
theorem asc_snoc (l : List Int) (i : Nat) (h : i < l.length) : asc l (i + 1) = asc l i ++ [rd l i % 128] := by
  unfold asc
  rw [List.take_succ_eq_append_getElem h, List.map_append]
  have : rd l (i : Int) = l[i] := by unfold rd; rw [Int.toNat_natCast, List.getD_eq_getElem?_getD, List.getElem?_eq_getElem h]; rfl
  rw [this]; rfl
theorem asc_run (l : List Int) (hl : ∀ v ∈ l, 0 ≤ v ∧ v ≤ 255) (most : Nat) (hm : most ≤ 1000) :
    ∀ (d i : Nat), i + d = min l.length most → Ev (fun k => F.spec_ODAscii.l0 k l most (asc l i) i) (strOfNums (asc l most)) := by
  intro d
  induction d with
  | zero =>
    intro i hi
    have e : asc l i = asc l most := by
      unfold asc
      rcases Nat.le_total l.length most with h | h
      · rw [List.take_of_length_le (by omega), List.take_of_length_le h]
      · rw [show i = most by omega]
    refine Ev.step (f := fun _ => some (strOfNums (asc l most))) (fun k => ?_) (Ev.now _)
    rw [F.spec_ODAscii.l0, e]
    by_cases h : (i : Int) < (l.length : Int)
    · rw [if_pos h, if_neg (by omega)]
    · rw [if_neg h]
  | succ d ih =>
    intro i hi
    have hil : i < l.length := by omega
    refine Ev.step (fun k => ?_) (ih (i + 1) (by omega))
    have hr : 0 ≤ rd l i := by
      have : rd l (i : Int) = l[i] := by unfold rd; rw [Int.toNat_natCast, List.getD_eq_getElem?_getD, List.getElem?_eq_getElem hil]; rfl
      rw [this]; exact (hl _ (List.getElem_mem hil)).1
    rw [F.spec_ODAscii.l0, if_pos (by omega), if_pos (by omega), if_pos (by omega), if_pos (by unfold asc; rw [List.length_map, List.length_take]; omega), asc_snoc l i hil, show wrap64 ((i : Int) + 1) = ((i + 1 : Nat) : Int) by unfold wrap64; omega]
    rw [Int.tmod_eq_emod_of_nonneg hr]
theorem ascE (l : List Int) (hl : ∀ v ∈ l, 0 ≤ v ∧ v ≤ 255) (most : Nat) (hm : most ≤ 1000) : Ev (fun k => F.spec_ODAscii.f k l most) (strOfNums (asc l most)) := asc_run l hl most hm (min l.length most) 0 (by omega)
theorem asc_rng (l : List Int) (most : Nat) : ∀ x ∈ asc l most, 0 ≤ x ∧ x < 128 := by
  intro x hx
  obtain ⟨v, _, rfl⟩ := List.mem_map.1 hx
  omega
theorem asc_len (l : List Int) (most : Nat) : (asc l most).length ≤ most := by unfold asc; rw [List.length_map, List.length_take]; omega
theorem rng_256 {xs : List Int} (h : ∀ x ∈ xs, 0 ≤ x ∧ x < 128) : ∀ x ∈ xs, 0 ≤ x ∧ x < 256 := fun x hx => by have := h x hx; omega
theorem bytesOf_str9 (xs : List Int) (h : ∀ x ∈ xs, 0 ≤ x ∧ x < 256) : bytesOf (strOfNums xs) = xs := by
  unfold bytesOf strOfNums
  simp only [List.map_map]
  conv => rhs; rw [← List.map_id xs]
  apply List.map_congr_left
  intro x hx
  have := h x hx
  show ((UInt8.ofNat x.toNat).toNat : Int) = x
  have e : (UInt8.ofNat x.toNat).toNat = x.toNat % 256 := rfl
  rw [e]; omega
theorem asc_bt (l : List Int) (most : Nat) (i : Nat) : bt (strOfNums (asc l most)) i < 128 := by
  rw [← rd_bytesOf, bytesOf_str9 _ (rng_256 (asc_rng l most))]
  unfold rd
  rw [List.getD_eq_getElem?_getD]
  rcases Nat.lt_or_ge (i : Int).toNat (asc l most).length with h | h
  · rw [List.getElem?_eq_getElem h]; exact (asc_rng l most _ (List.getElem_mem h)).2
  · rw [List.getElem?_eq_none h]; decide

theorem str_append (a b : List Int) : strOfNums a ++ strOfNums b = strOfNums (a ++ b) := by
  have : (strOfNums a ++ strOfNums b).data.toList = (strOfNums (a ++ b)).data.toList := by
    rw [ba_append]; simp [strOfNums]
  have h2 := Array.toList_inj.1 this
  cases hx : strOfNums a ++ strOfNums b with
  | mk d => cases hy : strOfNums (a ++ b) with
    | mk d2 => rw [hx, hy] at h2; exact congrArg ByteArray.mk h2
theorem str_size9 (xs : List Int) : (strOfNums xs).size = xs.length := by
  rw [← data_length]; simp [strOfNums]

/-! ### Code 128: the values that the writer takes -/

def two128 (xs : List Int) (p : Nat) : Bool := decide (48 ≤ rd xs p) && decide (rd xs p ≤ 57) && decide (p + 1 < xs.length) && decide (48 ≤ rd xs (p + 1 : Nat)) && decide (rd xs (p + 1 : Nat) ≤ 57)
def one128 (xs : List Int) (p : Nat) : Bool := decide (48 ≤ rd xs p) && decide (rd xs p ≤ 57)
def cho (xs : List Int) (X : Nat → Int) (p : Nat) (old : Int) : Int :=
  if two128 xs p = true then (if old = 100 then X p else 99) else if one128 xs p = true then (if old = 101 then 101 else 100) else if rd xs p < 32 ∨ (old = 101 ∧ rd xs p < 96) then 101 else 100
theorem two_facts {xs : List Int} {p : Nat} (h : two128 xs p = true) : 48 ≤ rd xs p ∧ rd xs p ≤ 57 ∧ p + 1 < xs.length ∧ 48 ≤ rd xs (p + 1 : Nat) ∧ rd xs (p + 1 : Nat) ≤ 57 := by
  unfold two128 at h
  simp only [Bool.and_eq_true, decide_eq_true_eq] at h
  obtain ⟨⟨⟨⟨h1, h2⟩, h3⟩, h4⟩, h5⟩ := h
  exact ⟨h1, h2, h3, h4, h5⟩
theorem cho_cases (xs : List Int) (X : Nat → Int) (hX : ∀ p, X p = 99 ∨ X p = 100) (p : Nat) (old : Int) :
    (cho xs X p old = 99 ∧ two128 xs p = true) ∨ (cho xs X p old = 100 ∧ 32 ≤ rd xs p) ∨ (cho xs X p old = 101 ∧ rd xs p < 96) := by
  unfold cho
  by_cases h2 : two128 xs p = true
  · rw [if_pos h2]
    have := two_facts h2
    by_cases ho : old = 100
    · rw [if_pos ho]
      rcases hX p with h | h
      · exact .inl ⟨h, h2⟩
      · exact .inr (.inl ⟨h, by omega⟩)
    · rw [if_neg ho]; exact .inl ⟨rfl, h2⟩
  · rw [if_neg h2]
    by_cases h1 : one128 xs p = true
    · rw [if_pos h1]
      unfold one128 at h1
      simp only [Bool.and_eq_true, decide_eq_true_eq] at h1
      by_cases ho : old = 101
      · rw [if_pos ho]; exact .inr (.inr ⟨rfl, by omega⟩)
      · rw [if_neg ho]; exact .inr (.inl ⟨rfl, by omega⟩)
    · rw [if_neg h1]
      by_cases h : rd xs p < 32 ∨ (old = 101 ∧ rd xs p < 96)
      · rw [if_pos h]; exact .inr (.inr ⟨rfl, by omega⟩)
      · rw [if_neg h]; exact .inr (.inl ⟨rfl, by omega⟩)
theorem cho_idem (xs : List Int) (X : Nat → Int) (hX : ∀ p, X p = 99 ∨ X p = 100) (p : Nat) (old : Int) : cho xs X p (cho xs X p old) = cho xs X p old := by
  unfold cho
  by_cases h2 : two128 xs p = true
  · simp only [if_pos h2]
    by_cases ho : old = 100
    · simp only [if_pos ho]
      rcases hX p with h | h
      · rw [h]; rfl
      · rw [h, if_pos rfl]
    · simp only [if_neg ho]; rfl
  · simp only [if_neg h2]
    by_cases h1 : one128 xs p = true
    · simp only [if_pos h1]
      by_cases ho : old = 101
      · simp only [if_pos ho, if_true]
      · simp only [if_neg ho]; rfl
    · simp only [if_neg h1]
      by_cases h : rd xs p < 32 ∨ (old = 101 ∧ rd xs p < 96)
      · simp only [if_pos h]
        rcases h with h | h
        · rw [if_pos (Or.inl h)]
        · rw [if_pos (Or.inr ⟨trivial, h.2⟩)]
      · simp only [if_neg h]; rw [if_neg (by omega)]
def val128 (xs : List Int) (p : Nat) (s : Int) : Int :=
  if s = 101 then (if rd xs p < 32 then rd xs p + 64 else rd xs p - 32) else if s = 100 then rd xs p - 32 else (rd xs p - 48) * 10 + (rd xs (p + 1 : Nat) - 48)
def start128 (c : Int) : Int := if c = 101 then 103 else if c = 100 then 104 else 105
structure St where
  p : Nat
  s : Int
  acc : List Int
def nxt (xs : List Int) (X : Nat → Int) (st : St) : St :=
  if st.p < xs.length then
    (if cho xs X st.p st.s = st.s then ⟨st.p + (if st.s = 99 then 2 else 1), st.s, st.acc ++ [val128 xs st.p st.s]⟩
     else ⟨st.p, cho xs X st.p st.s, st.acc ++ [if st.s = 0 then start128 (cho xs X st.p st.s) else cho xs X st.p st.s]⟩)
  else st
def mach (xs : List Int) (X : Nat → Int) : Nat → St
  | 0 => ⟨0, 0, []⟩
  | k + 1 => nxt xs X (mach xs X k)
theorem mach_stay (xs : List Int) (X : Nat → Int) (k : Nat) (h : xs.length ≤ (mach xs X k).p) : ∀ d, mach xs X (k + d) = mach xs X k := by
  intro d
  induction d with
  | zero => rfl
  | succ d ih => rw [Nat.add_succ, mach, ih, nxt, if_neg (by omega)]
theorem mach_prefix (xs : List Int) (X : Nat → Int) (k d : Nat) : ∃ r, (mach xs X (k + d)).acc = (mach xs X k).acc ++ r := by
  induction d with
  | zero => exact ⟨[], by rw [List.append_nil]; rfl⟩
  | succ d ih =>
    obtain ⟨r, hr⟩ := ih
    rw [Nat.add_succ, mach, nxt]
    by_cases h : (mach xs X (k + d)).p < xs.length
    · rw [if_pos h]
      by_cases h1 : cho xs X (mach xs X (k + d)).p (mach xs X (k + d)).s = (mach xs X (k + d)).s
      · rw [if_pos h1]; exact ⟨_, by dsimp only; rw [hr, List.append_assoc]⟩
      · rw [if_neg h1]; exact ⟨_, by dsimp only; rw [hr, List.append_assoc]⟩
    · rw [if_neg h]; exact ⟨r, hr⟩
structure Mi (xs : List Int) (X : Nat → Int) (k : Nat) (st : St) : Prop where
  le : st.p ≤ xs.length
  lek : st.acc.length ≤ k
  run : st.p < xs.length → st.acc.length = k
  sort : (st.acc = [] ∧ st.p = 0 ∧ st.s = 0) ∨ ((st.s = 99 ∨ st.s = 100 ∨ st.s = 101) ∧ ((st.acc.length = 1 ∧ st.p = 0 ∧ cho xs X st.p st.s = st.s) ∨ (2 ≤ st.acc.length ∧ 1 ≤ st.p)))
  len : st.acc.length ≤ 2 * st.p + 2
  len' : st.p < xs.length → cho xs X st.p st.s ≠ st.s → st.acc.length ≤ 2 * st.p + 1
  rng : ∀ v ∈ st.acc, 0 ≤ v ∧ v ≤ 105
theorem mach_inv (xs : List Int) (X : Nat → Int) (hX : ∀ p, X p = 99 ∨ X p = 100) (hr : ∀ v ∈ xs, 0 ≤ v ∧ v < 128) (k : Nat) : Mi xs X k (mach xs X k) := by
  induction k with
  | zero =>
    refine ⟨Nat.zero_le _, Nat.le_refl _, fun _ => rfl, .inl ⟨rfl, rfl, rfl⟩, by simp [mach], fun _ _ => by simp [mach], ?_⟩
    intro v hv
    cases hv
  | succ k ih =>
    rw [mach]
    revert ih
    generalize mach xs X k = st
    intro ih
    obtain ⟨p, s, acc⟩ := st
    obtain ⟨h1, h2, h3, h4, h5, h6, h7⟩ := ih
    try dsimp only at h1 h2 h3 h4 h5 h6 h7
    unfold nxt
    try dsimp only
    by_cases hp : p < xs.length
    · rw [if_pos hp]
      have hl := h3 hp
      have hx : 0 ≤ rd xs p ∧ rd xs p < 128 := by
        have : rd xs (p : Int) = xs[p] := by unfold rd; rw [Int.toNat_natCast, List.getD_eq_getElem?_getD, List.getElem?_eq_getElem hp]; rfl
        rw [this]; exact hr _ (List.getElem_mem hp)
      have hc := cho_cases xs X hX p s
      by_cases hs : cho xs X p s = s
      · rw [if_pos hs]
        rw [hs] at hc
        have hs9 : s = 99 ∨ s = 100 ∨ s = 101 := by omega
        have hne : acc ≠ [] := by
          rintro rfl
          rcases h4 with h | h
          · omega
          · have := h.2; simp at this
        have hln : 1 ≤ acc.length := by
          rcases acc with _ | ⟨x, r⟩
          · exact absurd rfl hne
          · simp
        refine ⟨?_, by simp [hl], fun _ => by simp [hl], .inr ⟨hs9, .inr ⟨by simp; omega, by dsimp only; split <;> omega⟩⟩, ?_, fun _ _ => ?_, ?_⟩
        · dsimp only
          rcases hc with ⟨h, ht⟩ | ⟨h, _⟩ | ⟨h, _⟩
          · have := two_facts ht; rw [if_pos h]; omega
          · rw [if_neg (by omega)]; omega
          · rw [if_neg (by omega)]; omega
        · simp; split <;> omega
        · simp; split <;> omega
        · intro v hv
          rcases List.mem_append.1 hv with hv | hv
          · exact h7 v hv
          · obtain rfl := List.mem_singleton.1 hv
            unfold val128
            rcases hc with ⟨h, ht⟩ | ⟨h, _⟩ | ⟨h, _⟩
            · have := two_facts ht
              rw [if_neg (by omega), if_neg (by omega)]; omega
            · rw [if_neg (by omega), if_pos h]; omega
            · rw [if_pos h]; split <;> omega
      · rw [if_neg hs]
        have hid := cho_idem xs X hX p s
        have hlen := h6 hp hs
        refine ⟨h1, by simp [hl], fun _ => by simp [hl], .inr ⟨by dsimp only; omega, ?_⟩, by simp; omega, fun _ h => absurd hid h, ?_⟩
        · rcases h4 with ⟨rfl, rfl, rfl⟩ | ⟨_, ⟨_, hp0, h⟩ | ⟨h, hp1⟩⟩
          · exact .inl ⟨rfl, rfl, hid⟩
          · exact absurd h hs
          · exact .inr ⟨by simp; omega, hp1⟩
        · intro v hv
          rcases List.mem_append.1 hv with hv | hv
          · exact h7 v hv
          · obtain rfl := List.mem_singleton.1 hv
            by_cases h0 : s = 0
            · rw [if_pos h0]; unfold start128; split
              · omega
              · split <;> omega
            · rw [if_neg h0]; omega
    · rw [if_neg hp]
      exact ⟨h1, Nat.le_succ_of_le h2, fun h => absurd h hp, h4, h5, fun h => absurd h hp, h7⟩
def full128 (xs : List Int) (X : Nat → Int) : List Int := (mach xs X (2 * xs.length + 2)).acc
theorem mach_end (xs : List Int) (X : Nat → Int) (hX : ∀ p, X p = 99 ∨ X p = 100) (hr : ∀ v ∈ xs, 0 ≤ v ∧ v < 128) (k : Nat) (hk : (mach xs X k).acc.length = k) (h : (mach xs X k).p = xs.length) : (mach xs X k).acc = full128 xs X := by
  have hi := mach_inv xs X hX hr k
  have hl := hi.len
  unfold full128
  rw [show 2 * xs.length + 2 = k + (2 * xs.length + 2 - k) by omega, mach_stay xs X k (by omega)]
theorem mach_pre (xs : List Int) (X : Nat → Int) (hX : ∀ p, X p = 99 ∨ X p = 100) (hr : ∀ v ∈ xs, 0 ≤ v ∧ v < 128) (k : Nat) (h : (mach xs X k).p < xs.length) : ∃ r, full128 xs X = (mach xs X (k + 1)).acc ++ r := by
  have hi := mach_inv xs X hX hr k
  have hl := hi.len
  have := hi.run h
  unfold full128
  rw [show 2 * xs.length + 2 = (k + 1) + (2 * xs.length + 2 - (k + 1)) by omega]
  exact mach_prefix xs X (k + 1) _
theorem full_facts (xs : List Int) (X : Nat → Int) (hX : ∀ p, X p = 99 ∨ X p = 100) (hr : ∀ v ∈ xs, 0 ≤ v ∧ v < 128) (h0 : 0 < xs.length) :
    (mach xs X (2 * xs.length + 2)).p = xs.length ∧ 2 ≤ (full128 xs X).length ∧ (full128 xs X).length ≤ 2 * xs.length + 2 ∧ ∀ v ∈ full128 xs X, 0 ≤ v ∧ v ≤ 105 := by
  have hi := mach_inv xs X hX hr (2 * xs.length + 2)
  have hp : (mach xs X (2 * xs.length + 2)).p = xs.length := by
    rcases Nat.lt_or_ge (mach xs X (2 * xs.length + 2)).p xs.length with h | h
    · have := hi.run h; have := hi.len; omega
    · exact Nat.le_antisymm hi.le h
  refine ⟨hp, ?_, ?_, hi.rng⟩
  · unfold full128
    rcases hi.sort with ⟨_, h, _⟩ | ⟨_, ⟨_, h, _⟩ | ⟨h, _⟩⟩
    · omega
    · omega
    · exact h
  · have := hi.len; unfold full128; omega
end Go.Proofs.YthkddnmomjcdaaaGreat.B
namespace Go.Proofs.YthkddnmomjcdaaaGreat.F
open Go.RowKit Go.Proofs.YthkddnmomjcdaaaGreatW.PrintWords Go.Proofs.YthkddnmomjcdaaaGreatW.PrintLast Go.Proofs.YthkddnmomjcdaaaGreatW.PrintMore
attribute [local go_sem] max2_int min2_int max_two min_two max_three min_three max_four min_four   -- for this text's walks alone
set_option linter.unusedVariables false
set_option linter.unusedSimpArgs false

/-! ### oned_onedWriter_appendPattern: function 145 -/
mutual
def oned_onedWriter_appendPattern.l0 : Nat → List Bool → Int → Bool → Int → List Int → Int → Int → Option (Int × List Bool)
  | 0, _, _, _, _, _, _, _ => none
  | k + 1, x0, x1, x9, x10, x15, x16, x17 => if x17 < x16 then (if 0 ≤ x17 then (if x17 < (x15.length : Int) then (oned_onedWriter_appendPattern.l1 k x0 x1 x9 x10 (rd x15 x17) 0 x15 x16 x17) else (none)) else (none)) else (some (x10, x0))
def oned_onedWriter_appendPattern.l1 : Nat → List Bool → Int → Bool → Int → Int → Int → List Int → Int → Int → Option (Int × List Bool)
  | 0, _, _, _, _, _, _, _, _, _ => none
  | k + 1, x0, x1, x9, x10, x12, x13, x15, x16, x17 => if x13 < x12 then (if 0 ≤ x1 then (if x1 < (x0.length : Int) then (oned_onedWriter_appendPattern.l1 k (x0.set (x1 : Int).toNat x9) (wrap64 (x1 + 1)) x9 x10 x12 (wrap64 (x13 + 1)) x15 x16 x17) else (none)) else (none)) else (oned_onedWriter_appendPattern.l0 k x0 x1 (!x9) (wrap64 (x10 + x12)) x15 x16 (wrap64 (x17 + 1)))
end
def oned_onedWriter_appendPattern.f (k : Nat) (l0 : List Bool) (a1 : Int) (l2 : List Int) (a3 : Bool) : Option (Int × List Bool) := oned_onedWriter_appendPattern.l0 k l0 a1 a3 0 l2 (l2.length : Int) 0
theorem oned_onedWriter_appendPattern.mono_l : ∀ k, (∀ y0 y1 y2 y3 y4 y5 y6, LeO (oned_onedWriter_appendPattern.l0 k y0 y1 y2 y3 y4 y5 y6) (oned_onedWriter_appendPattern.l0 (k + 1) y0 y1 y2 y3 y4 y5 y6)) ∧ (∀ y0 y1 y2 y3 y4 y5 y6 y7 y8, LeO (oned_onedWriter_appendPattern.l1 k y0 y1 y2 y3 y4 y5 y6 y7 y8) (oned_onedWriter_appendPattern.l1 (k + 1) y0 y1 y2 y3 y4 y5 y6 y7 y8))
  | 0 => ⟨fun _ _ _ _ _ _ _ r h => by simp [oned_onedWriter_appendPattern.l0] at h, fun _ _ _ _ _ _ _ _ _ r h => by simp [oned_onedWriter_appendPattern.l1] at h⟩
  | k + 1 => by
    obtain ⟨ih0, ih1⟩ := oned_onedWriter_appendPattern.mono_l k
    refine ⟨?_, ?_⟩
    · intro y0 y1 y2 y3 y4 y5 y6
      unfold oned_onedWriter_appendPattern.l0
      repeat' first
      | (with_reducible exact ih0 _ _ _ _ _ _ _)
      | (with_reducible exact ih1 _ _ _ _ _ _ _ _ _)
      | (with_reducible exact LeO.refl _)
      | (with_reducible exact LeO.none _)
      | (with_reducible refine LeO.ite ?_ ?_)
      | (with_reducible refine LeO.bind ?_ (fun _ => ?_))
      | exact ih0 _ _ _ _ _ _ _
      | exact ih1 _ _ _ _ _ _ _ _ _
      | exact LeO.none _
      | refine LeO.ite ?_ ?_
      | refine LeO.bind ?_ (fun _ => ?_)
    · intro y0 y1 y2 y3 y4 y5 y6 y7 y8
      unfold oned_onedWriter_appendPattern.l1
      repeat' first
      | (with_reducible exact ih0 _ _ _ _ _ _ _)
      | (with_reducible exact ih1 _ _ _ _ _ _ _ _ _)
      | (with_reducible exact LeO.refl _)
      | (with_reducible exact LeO.none _)
      | (with_reducible refine LeO.ite ?_ ?_)
      | (with_reducible refine LeO.bind ?_ (fun _ => ?_))
      | exact ih0 _ _ _ _ _ _ _
      | exact ih1 _ _ _ _ _ _ _ _ _
      | exact LeO.none _
      | refine LeO.ite ?_ ?_
      | refine LeO.bind ?_ (fun _ => ?_)
theorem oned_onedWriter_appendPattern.mono : ∀ a0 a1 a2 a3 k, LeO (oned_onedWriter_appendPattern.f k a0 a1 a2 a3) (oned_onedWriter_appendPattern.f (k + 1) a0 a1 a2 a3) := by
  intro a0 a1 a2 a3 k
  obtain ⟨ih0, ih1⟩ := oned_onedWriter_appendPattern.mono_l k
  unfold oned_onedWriter_appendPattern.f
  repeat' first
      | (with_reducible exact ih0 _ _ _ _ _ _ _)
      | (with_reducible exact ih1 _ _ _ _ _ _ _ _ _)
      | (with_reducible exact LeO.refl _)
      | (with_reducible exact LeO.none _)
      | (with_reducible refine LeO.ite ?_ ?_)
      | (with_reducible refine LeO.bind ?_ (fun _ => ?_))
      | exact ih0 _ _ _ _ _ _ _
      | exact ih1 _ _ _ _ _ _ _ _ _
      | exact LeO.none _
      | refine LeO.ite ?_ ?_
      | refine LeO.bind ?_ (fun _ => ?_)
set_option maxHeartbeats 8000000 in
set_option maxRecDepth 100000 in
theorem oned_onedWriter_appendPattern.calls (k : Nat) (P0_ : Nat → Prop) (u9000_ : Value) (l0 : List Bool) (a1 : Int) (A2 : Option Addr) (c2 : Nat) (l2 : List Int) (a3 : Bool) (r1 : Int) (r2 : List Bool) (w0 w : World) (hB : Below w0.heap.size w0 w) (ho0 : Kd.R Kd.bool 4 w w0.heap.size P0_ u9000_ l0) (hr2 : ∀ W_, Kept w W_ (fun k_ => P0_ k_) → Kd.C (Kd.int .i64) W_ A2 l2.length l2) (hc2 : l2.length ≤ c2) (h : oned_onedWriter_appendPattern.f k l0 a1 l2 a3 = some (r1, r2)) :
    Calls Tryz.prog 145 #[u9000_, .int .i64 a1, .slice A2 l2.length c2, .bool a3] w fun e w' => e = .returned (.int .i64 r1) ∧ Kd.R Kd.bool 4 w' w0.heap.size (fun k_ => (P0_ k_ ∨ w.heap.size ≤ k_)) u9000_ r2 ∧ Below w0.heap.size w0 w' ∧ Kept w w' (fun k_ => P0_ k_) := by
  have HO0 := Aside0.mk (show Kd.R Kd.bool 4 w w0.heap.size (fun k_ => (P0_ k_ ∨ w.heap.size ≤ k_)) u9000_ l0 from Kd.R_mono ho0 (fun k_ hk => (.inl hk)))
  have HR2 := Aside0.mk hr2
  have HC2 := Aside0.mk hc2
  clear hr2 hc2
  have HK := Aside0.mk (Kept.refl w (fun k_ => P0_ k_))
  have HW0 := Aside0.mk hB.size
  have HB := Aside0.mk hB
  clear hB
  have H : (oned_onedWriter_appendPattern.l0 k l0 a1 a3 0 l2 (l2.length : Int) 0) = some (r1, r2) := h
  clear h
  have H' := Aside0.mk H
  clear H
  go_enter Tryz.func145, Tryz.ntmps145
  go_wp2
  go_loopg [1, 9, 10, 17] k (fun kq v1 v9 v10 v17 w' => ∃ (x0_1 : List Bool) (x1_1 : Int) (x9_1 : Bool) (x10_1 : Int) (x17_1 : Int), v1 = .int .i64 x1_1 ∧ v9 = .bool x9_1 ∧ v10 = .int .i64 x10_1 ∧ v17 = .int .i64 x17_1 ∧ Aside0 (oned_onedWriter_appendPattern.l0 kq x0_1 x1_1 x9_1 x10_1 l2 (l2.length : Int) x17_1 = some (r1, r2)) ∧ Aside0 (kq ≤ k) ∧ Aside0 (Kd.R Kd.bool 4 w' w0.heap.size (fun k_ => (P0_ k_ ∨ w.heap.size ≤ k_)) u9000_ x0_1) ∧ Aside0 (Kept w w' (fun k_ => P0_ k_)) ∧ Aside0 (Below w0.heap.size w0 w'))
  case atStart => exact ⟨(l0), (a1), (a3), (0), (0), (by first | rfl | (simp; done) | (simp [*]; done)), (by first | rfl | (simp; done) | (simp [*]; done)), (by first | rfl | (simp; done) | (simp [*]; done)), (by first | rfl | (simp; done) | (simp [*]; done)), H', ⟨Nat.le_refl _⟩, ⟨by (with_reducible repeat (first | apply Kd.R_alloc | apply Kd.R_drewN | apply Kd.R_drew)); exact HO0.out⟩, ⟨by repeat (first | (with_reducible first | exact HK.out | apply Kept.alloc | apply Kept.drewN | apply Kept.drew) | exact HK.out)⟩, ⟨by repeat (first | (with_reducible first | exact HB.out | apply below_alloc | apply pw_below_drewN | apply below_drew1) | exact HB.out)⟩⟩
  case round =>
    clear H'
    try clear c1
    try clear c2
    try clear p2
    obtain ⟨x0_1, x1_1, x9_1, x10_1, x17_1, rfl, rfl, rfl, rfl, HA, HK1, HO_0, HK, HB⟩ := hrel
    cases gk with
    | zero => exact absurd HA.out (by simp [oned_onedWriter_appendPattern.l0])
    | succ k1 =>
      have H := HA.out
      clear HA
      simp only [oned_onedWriter_appendPattern.l0] at H
      by_cases c5 : x17_1 < (l2.length : Int)
      · rw [if_pos c5] at H
        have c5b0 : decide (x17_1 < (l2.length : Int)) = true := decide_eq_true c5
        clear c5
        by_cases c6 : 0 ≤ x17_1
        · rw [if_pos c6] at H
          have c6b0 : decide (0 ≤ x17_1) = true := decide_eq_true c6
          clear c6
          by_cases c7 : x17_1 < (l2.length : Int)
          · rw [if_pos c7] at H
            have c7b0 : decide (x17_1 < (l2.length : Int)) = true := decide_eq_true c7
            clear c7
            have H' := Aside0.mk H
            clear H
            have p397 : 0 ≤ (x17_1 : Int) := of_decide_eq_true (by first | (with_reducible assumption) | assumption)
            have q397 : x17_1 < (l2.length : Int) := of_decide_eq_true (by first | (with_reducible assumption) | assumption)
            obtain ⟨ad397, e397, hx397_0⟩ := Kd.at_int (Kd.C_kept_now HR2.out HK.out) x17_1 p397 q397
            cases e397
            replace p397 := eq_true p397
            replace q397 := eq_true q397
            go_wp2
            go_loopg [1, 13] k1 (fun kq v1 v13 w' => ∃ (x0_2 : List Bool) (x1_2 : Int) (x13_2 : Int), v1 = .int .i64 x1_2 ∧ v13 = .int .i64 x13_2 ∧ Aside0 (oned_onedWriter_appendPattern.l1 kq x0_2 x1_2 x9_1 x10_1 (rd l2 x17_1) x13_2 l2 (l2.length : Int) x17_1 = some (r1, r2)) ∧ Aside0 (kq ≤ k1) ∧ Aside0 (Kd.R Kd.bool 4 w' w0.heap.size (fun k_ => (P0_ k_ ∨ w.heap.size ≤ k_)) u9000_ x0_2) ∧ Aside0 (Kept w w' (fun k_ => P0_ k_)) ∧ Aside0 (Below w0.heap.size w0 w'))
            case atStart => exact ⟨(x0_1), (x1_1), (0), (by first | rfl | (simp; done) | (simp [*]; done)), (by first | rfl | (simp; done) | (simp [*]; done)), H', ⟨Nat.le_refl _⟩, ⟨by (with_reducible repeat (first | apply Kd.R_alloc | apply Kd.R_drewN | apply Kd.R_drew)); exact HO_0.out⟩, ⟨by repeat (first | (with_reducible first | exact HK.out | apply Kept.alloc | apply Kept.drewN | apply Kept.drew) | exact HK.out)⟩, ⟨by repeat (first | (with_reducible first | exact HB.out | apply below_alloc | apply pw_below_drewN | apply below_drew1) | exact HB.out)⟩⟩
            case round =>
              clear H'
              try clear c1
              try clear c2
              try clear p2
              try clear p3
              try clear q3
              try clear hx3
              try clear c5
              try clear c5b0
              try clear c6
              try clear c6b0
              try clear c7
              try clear c7b0
              try clear hx397_0
              try clear p2
              try clear p397
              try clear q397
              obtain ⟨x0_2, x1_2, x13_2, rfl, rfl, HA, HK2, HO_0, HK, HB⟩ := hrel
              cases gk with
              | zero => exact absurd HA.out (by simp [oned_onedWriter_appendPattern.l1])
              | succ k2 =>
                have H := HA.out
                clear HA
                simp only [oned_onedWriter_appendPattern.l1] at H
                by_cases c8 : x13_2 < (rd l2 x17_1)
                · rw [if_pos c8] at H
                  have c8b0 : decide (x13_2 < (rd l2 x17_1)) = true := decide_eq_true c8
                  clear c8
                  by_cases c9 : 0 ≤ x1_2
                  · rw [if_pos c9] at H
                    have c9b0 : decide (0 ≤ x1_2) = true := decide_eq_true c9
                    clear c9
                    by_cases c10 : x1_2 < (x0_2.length : Int)
                    · rw [if_pos c10] at H
                      have c10b0 : decide (x1_2 < (x0_2.length : Int)) = true := decide_eq_true c10
                      clear c10
                      obtain ⟨y398, hy398⟩ : ∃ y_ : List Bool, y_ = (x0_2.set (x1_2 : Int).toNat x9_1) := ⟨_, rfl⟩
                      replace H : (oned_onedWriter_appendPattern.l1 k2 y398 (wrap64 (x1_2 + 1)) x9_1 x10_1 (rd l2 x17_1) (wrap64 (x13_2 + 1)) l2 (l2.length : Int) x17_1) = some (r1, r2) := by first | (rw [hy398]; with_reducible exact H) | (have H2_ := (Option.bind_some _ _).symm.trans H; rw [hy398]; with_reducible exact H2_) | (have H2_ := (Option.bind_some _ _).symm.trans H; with_reducible exact H2_) | with_reducible exact H | (rw [hy398]; exact H) | exact H
                      have Ny398 := Aside0.mk hy398
                      clear hy398
                      have H' := Aside0.mk H
                      clear H
                      have p11 : 0 ≤ (x1_2 : Int) := of_decide_eq_true (by first | (with_reducible assumption) | assumption)
                      have q11 : (x1_2 : Int) < ((x0_2.length : Int) : Int) := of_decide_eq_true (by first | (with_reducible assumption) | assumption)
                      obtain ⟨go11, co11, eo11, gb11, gl11, cl11, HG11⟩ := Kd.R_form HO_0.out (by omega)
                      (first | cases eo11 | (injection eo11 with ea_ en_ ec_; (first | subst ea_ | (injection ea_ with ea_; subst ea_)); subst ec_; clear en_))
                      have GB11 := Aside0.mk gb11
                      have GG11 := Aside0.mk HG11
                      clear gb11 gl11 HG11
                      have HMgo11 := Aside0.mk (show (P0_ go11 ∨ w.heap.size ≤ go11) from (HO_0.out.1 _ rfl))
                      obtain ⟨hx11_0, hf11_0⟩ := Kd.R_celln false HO_0.out (x1_2 : Int) p11 q11
                      replace p11 := eq_true p11
                      replace q11 := eq_true q11
                      have HP12 := Kd.R_putg HO_0.out (x1_2 : Int) x9_1
                      go_wp2_with (first | ((with_reducible refine gate_store (t := 4) (p := 29) rfl ?_); refine store_event (t := 4) (p := 29) (v := ?vo_w13) (w1 := (wr.setCell ⟨go11, (x1_2 : Int).toNat, none⟩ (.bool x9_1))) ?hg ?ho ?hn ?hr ?_; (case ho => rfl); (case hg => rfl); (case hn => rfl); (case hr => first | (go_simp; done) | (go_simp; rfl)); intro w13 hw; have hg : wr.grownBy w13 (some go11) := (by rw [hw]; exact HP12.2); have hp_ : Kd.R Kd.bool 4 w13 w0.heap.size (fun k_ => (P0_ k_ ∨ w.heap.size ≤ k_)) (.slice (some ⟨go11, 0, none⟩) x0_2.length co11) y398 := (by rw [hw, Ny398.out]; exact HP12.1); clear HP12; have n0_ := Aside0.mk (hp_); have n1_ := Aside0.mk ((by rw [hw]; exact below_set (HB.out) GB11.out : Below w0.heap.size w0 w13)); have n2_ := Aside0.mk (Kept.of_grown (S := (fun k_ => P0_ k_)) hg (by repeat (first | (with_reducible first | exact HK.out | apply Kept.alloc | apply Kept.drewN | apply Kept.drew) | exact HK.out)) (fun k_ e_ => (HO_0.out.1 k_ e_))); clear HO_0; clear HB; clear HK; have HO_0 := n0_; have HB := n1_; have HK := n2_; clear n0_ n1_ n2_; clear hg hw hp_))
                      go_roundg k2
                      case measure => have := HK1.out; have := HK2.out; omega
                      case rel => exact ⟨(y398), (wrap64 (x1_2 + 1)), (wrap64 (x13_2 + 1)), (by first | rfl | (simp; done) | (simp [*]; done)), (by first | rfl | (simp; done) | (simp [*]; done)), H', ⟨by have := HK1.out; have := HK2.out; omega⟩, ⟨by (with_reducible repeat (first | apply Kd.R_alloc | apply Kd.R_drewN | apply Kd.R_drew)); exact HO_0.out⟩, ⟨by repeat (first | (with_reducible first | exact HK.out | apply Kept.alloc | apply Kept.drewN | apply Kept.drew) | exact HK.out)⟩, ⟨by repeat (first | (with_reducible first | exact HB.out | apply below_alloc | apply pw_below_drewN | apply below_drew1) | exact HB.out)⟩⟩
                    · rw [if_neg c10] at H
                      exact absurd H (by simp)
                  · rw [if_neg c9] at H
                    exact absurd H (by simp)
                · rw [if_neg c8] at H
                  have c8b0 : decide (x13_2 < (rd l2 x17_1)) = false := decide_eq_false c8
                  clear c8
                  have H' := Aside0.mk H
                  clear H
                  go_wp2
                  go_roundg k2
                  case measure => have := HK1.out; have := HK2.out; omega
                  case rel => exact ⟨(x0_2), (x1_2), (!x9_1), (wrap64 (x10_1 + (rd l2 x17_1))), (wrap64 (x17_1 + 1)), (by first | rfl | (simp; done) | (simp [*]; done)), (by first | rfl | (simp; done) | (simp [*]; done)), (by first | rfl | (simp; done) | (simp [*]; done)), (by first | rfl | (simp; done) | (simp [*]; done)), H', ⟨by have := HK1.out; have := HK2.out; omega⟩, ⟨by (with_reducible repeat (first | apply Kd.R_alloc | apply Kd.R_drewN | apply Kd.R_drew)); exact HO_0.out⟩, ⟨by repeat (first | (with_reducible first | exact HK.out | apply Kept.alloc | apply Kept.drewN | apply Kept.drew) | exact HK.out)⟩, ⟨by repeat (first | (with_reducible first | exact HB.out | apply below_alloc | apply pw_below_drewN | apply below_drew1) | exact HB.out)⟩⟩
          · rw [if_neg c7] at H
            exact absurd H (by simp)
        · rw [if_neg c6] at H
          exact absurd H (by simp)
      · rw [if_neg c5] at H
        have c5b0 : decide (x17_1 < (l2.length : Int)) = false := decide_eq_false c5
        clear c5
        simp only [Option.some.injEq, Prod.mk.injEq] at H
        obtain ⟨rfl, rfl⟩ := H
        go_wp2
        go_ret
        exact ⟨by first | rfl | (simp [errW_none, errW_some] <;> rfl) | (simp [*, errW_none, errW_some] <;> rfl), by (with_reducible repeat (first | apply Kd.R_alloc | apply Kd.R_drewN | apply Kd.R_drew)); exact HO_0.out, by repeat (first | (with_reducible first | exact HB.out | apply below_alloc | apply pw_below_drewN | apply below_drew1) | exact HB.out), by repeat (first | (with_reducible first | exact HK.out | apply Kept.alloc | apply Kept.drewN | apply Kept.drew) | exact HK.out)⟩

-- NOT PRINTED: function 162 (oned_onedWriter_checkNumeric)
end Go.Proofs.YthkddnmomjcdaaaGreat.F
namespace Go.Proofs.YthkddnmomjcdaaaGreat.B
open Go.RowKit Go.Proofs.YthkddnmomjcdaaaGreatW.PrintWords Go.Proofs.YthkddnmomjcdaaaGreatW.PrintLast Go.Proofs.YthkddnmomjcdaaaGreatW.PrintMore
set_option linter.unusedVariables false
set_option linter.unusedSimpArgs false

/-! ### Rows of modules -/
/-- Runs of modules, in turns of two colours. -/
def bars (c : Bool) : List Int → List Bool
  | [] => []
  | n :: ns => List.replicate n.toNat c ++ bars (!c) ns
/-- A row whose first modules are ys. -/
def put {α : Type} (xs ys : List α) : List α := ys ++ xs.drop ys.length
theorem put_length {α : Type} (xs ys : List α) (h : ys.length ≤ xs.length) : (put xs ys).length = xs.length := by simp [put]; omega
theorem put_set {α : Type} (xs ys : List α) (v : α) (h : ys.length < xs.length) : (put xs ys).set ys.length v = put xs (ys ++ [v]) := by
  unfold put
  rw [List.set_append_right _ _ (Nat.le_refl _), Nat.sub_self, List.drop_eq_getElem_cons h, List.set_cons_zero]
  simp
theorem put_all {α : Type} (xs ys : List α) (h : ys.length = xs.length) : put xs ys = ys := by simp [put, h]
theorem put_nil {α : Type} (xs : List α) : put xs [] = xs := by simp [put]

theorem app_in (xs : List Bool) (c : Bool) (num len : Int) (ps : List Int) (plen idx : Int) (hX : xs.length ≤ 1000000000) (r : Int × List Bool) :
    ∀ (d : Nat) (ys : List Bool) (j : Int), 0 ≤ j → len - j = d → (ys.length : Int) + d ≤ xs.length → len ≤ 1000000 →
      Ev (fun k => F.oned_onedWriter_appendPattern.l0 k (put xs (ys ++ List.replicate d c)) (ys.length + d) (!c) (wrap64 (num + len)) ps plen (wrap64 (idx + 1))) r →
      Ev (fun k => F.oned_onedWriter_appendPattern.l1 k (put xs ys) ys.length c num len j ps plen idx) r := by
  intro d
  induction d with
  | zero =>
    intro ys j h0 hd hl hlen h
    refine Ev.step (fun k => ?_) h
    rw [F.oned_onedWriter_appendPattern.l1, if_neg (by omega)]
    simp
  | succ d ih =>
    intro ys j h0 hd hl hlen h
    have hpl := put_length xs ys (by omega)
    refine Ev.step (f := fun k => F.oned_onedWriter_appendPattern.l1 k (put xs (ys ++ [c])) ((ys ++ [c]).length : Nat) c num len (j + 1) ps plen idx) (fun k => ?_) ?_
    · rw [F.oned_onedWriter_appendPattern.l1, if_pos (by omega), if_pos (by omega), if_pos (by rw [hpl]; omega)]
      rw [Int.toNat_natCast, put_set _ _ _ (by omega), show wrap64 ((ys.length : Int) + 1) = ((ys ++ [c]).length : Nat) by simp; unfold wrap64; omega, show wrap64 (j + 1) = j + 1 by unfold wrap64; omega]
    · refine ih (ys ++ [c]) (j + 1) (by omega) (by omega) (by simp; omega) hlen ?_
      have e : ys ++ [c] ++ List.replicate d c = ys ++ List.replicate (d + 1) c := by simp [List.replicate_succ]
      rw [e]
      simp only [List.length_append, List.length_cons, List.length_nil]
      have e2 : (((ys.length + (0 + 1) : Nat) : Int) + (d : Int)) = (ys.length : Int) + ((d + 1 : Nat) : Int) := by omega
      rw [e2]
      exact h

theorem app_out (xs : List Bool) (ps : List Int) (hX : xs.length ≤ 1000000000) (hp : ∀ p ∈ ps, 0 ≤ p ∧ p ≤ 1000000) :
    ∀ (qs : List Int) (done : List Int) (ys : List Bool) (c : Bool) (num : Int), ps = done ++ qs → ys.length + (bars c qs).length ≤ xs.length → ps.length ≤ 1000000 → 0 ≤ num → num + (bars c qs).length ≤ 1000000000 →
      Ev (fun k => F.oned_onedWriter_appendPattern.l0 k (put xs ys) ys.length c num ps ps.length done.length) (num + (bars c qs).length, put xs (ys ++ bars c qs)) := by
  intro qs
  induction qs with
  | nil =>
    intro done ys c num he hl hpl h0 hn
    refine Ev.step (f := fun _ => some (num, put xs ys)) (fun k => ?_) ?_
    · rw [F.oned_onedWriter_appendPattern.l0, if_neg (by rw [he]; simp)]
    · simpa [bars] using Ev.now (num, put xs ys)
  | cons q qs ih =>
    intro done ys c num he hl hpl h0 hn
    have hq := hp q (by rw [he]; simp)
    have hlen : (bars c (q :: qs)).length = q.toNat + (bars (!c) qs).length := by simp [bars]
    have hlt : (done.length : Int) < ps.length := by rw [he]; simp; omega
    have hrd : rd ps done.length = q := by simp [rd, he]
    refine Ev.step (f := fun k => F.oned_onedWriter_appendPattern.l1 k (put xs ys) ys.length c num q 0 ps ps.length done.length) (fun k => ?_) ?_
    · rw [F.oned_onedWriter_appendPattern.l0, if_pos hlt, if_pos (by omega), if_pos hlt, hrd]
    · refine app_in xs c num q ps ps.length done.length hX _ q.toNat ys 0 (by omega) (by omega) (by omega) (by omega) ?_
      have := ih (done ++ [q]) (ys ++ List.replicate q.toNat c) (!c) (num + q) (by simp [he]) (by simp; omega) hpl (by omega) (by omega)
      rw [show wrap64 (num + q) = num + q by unfold wrap64; omega, show wrap64 ((done.length : Int) + 1) = ((done ++ [q]).length : Nat) by simp; unfold wrap64; omega]
      have e1 : (ys.length : Int) + (q.toNat : Int) = ((ys ++ List.replicate q.toNat c).length : Nat) := by simp
      rw [e1]
      have e2 : num + q + ((bars (!c) qs).length : Int) = num + ((bars c (q :: qs)).length : Int) := by rw [hlen]; omega
      rw [e2] at this
      have e3 : ys ++ List.replicate q.toNat c ++ bars (!c) qs = ys ++ bars c (q :: qs) := by simp [bars]
      rw [e3] at this
      exact this

/-- Of what was there just the block g may have turned. -/
structure Upd (w w' : World) (g : Nat) : Prop where
  os : w'.os = w.os
  tape : w'.tape = w.tape
  output : w'.output = w.output
  size : w.heap.size ≤ w'.heap.size
  block : ∀ k, k < w.heap.size → k ≠ g → w'.heap[k]? = w.heap[k]?
theorem Upd.refl (w : World) (g : Nat) : Upd w w g := ⟨rfl, rfl, rfl, Nat.le_refl _, fun _ _ _ => rfl⟩
theorem Upd.trans {a b c : World} {g : Nat} (h : Upd a b g) (k : Upd b c g) : Upd a c g := ⟨k.os.trans h.os, k.tape.trans h.tape, k.output.trans h.output, Nat.le_trans h.size k.size, fun i hi hn => (k.block i (Nat.lt_of_lt_of_le hi h.size) hn).trans (h.block i hi hn)⟩
theorem Upd.of_below {w w' : World} (g : Nat) (h : Below w.heap.size w w') : Upd w w' g := ⟨h.os, h.tape, h.output, h.size, fun k hk _ => h.block k hk⟩
theorem Upd.of_turn {w w' : World} {g : Nat} (h : Turn w w' g) : Upd w w' g := ⟨h.os, h.tape, h.output, Nat.le_of_eq h.size.symm, fun k _ hn => h.block k hn⟩
theorem Upd.blk {w w' : World} {g k : Nat} {t : TypeId} {cs : Array Value} (h : Upd w w' g) (hb : Blk w k t cs) (hne : k ≠ g) : Blk w' k t cs := (h.block k hb.lt hne).trans hb
theorem Upd.below {w w' : World} {g B : Nat} (h : Upd w w' g) (hB : B ≤ g) (hs : B ≤ w.heap.size) : Below B w w' := ⟨h.os, h.tape, h.output, h.size, fun k hk => h.block k (by omega) (by omega)⟩

theorem R_of_blk {w : World} {g N : Nat} {xs : List Bool} (h : Blk w g 4 (bools xs).toArray) (hN : xs.length = N) (hm : N ≤ 1000000000) {base : Nat} (hb : base ≤ g) : Kd.R Kd.bool 4 w base (fun k => k = g) (.slice (some ⟨g, 0, none⟩) N N) xs := by
  refine Kd.R_of_own (enc := Value.bool) (h1 := fun _ => rfl) ⟨by simp [encs], .inr ⟨g, N, _, by rw [hN], hb, h, by omega, by unfold maxLen; omega, by simp [bools, hN], ?_⟩⟩ (fun k hk => ?_)
  · rw [Nat.mul_one, List.toList_toArray]
    exact List.take_of_length_le (by simp [bools])
  · simpa [Value.ownBlock] using hk.symm
theorem blk_of_R {w : World} {g N base : Nat} {xs : List Bool} {ok : Nat → Prop} (h : Kd.R Kd.bool 4 w base ok (.slice (some ⟨g, 0, none⟩) N N) xs) (h0 : 0 < N) : Blk w g 4 (bools xs).toArray := by
  obtain ⟨h1, h2 | ⟨g', cap, cur, he, hb, hh, h3, h4, h5, h6⟩⟩ := Kd.own_of_R (enc := Value.bool) (h1 := fun _ => rfl) h
  · simp at h2
  · injection he with e1 e2 e3
    injection e1 with e1
    injection e1 with e1
    subst e1 e3
    have e : cur = (bools xs).toArray := by
      apply Array.toList_inj.1
      rw [← e2, Nat.mul_one, List.take_of_length_le (by rw [Array.length_toList, h5]; omega)] at h6
      rw [h6]
      rfl
    rw [← e]
    exact hh

/-- The cells of a row of numbers are none of a row of bools. -/
theorem C_kept {w : World} {gt : Nat} {xs : List Bool} {k : IntKind} {A : Option Addr} {ps : List Int} (hb : Blk w gt 4 (bools xs).toArray) (hC : Kd.C (Kd.int k) w A ps.length ps) (W : World) (hk : Kept w W (fun i => i = gt)) : Kd.C (Kd.int k) W A ps.length ps := by
  have hr := Kd.reads_of_C (enc := Value.int k) (d := (0 : Int)) (h1 := fun _ => rfl) hC
  refine Kd.C_of_reads (enc := Value.int k) (d := (0 : Int)) (h1 := fun _ => rfl) ⟨rfl, hr.2.1, fun hp => ?_⟩
  obtain ⟨ad, rfl, hc⟩ := hr.2.2 hp
  refine ⟨ad, rfl, fun j hj => ?_⟩
  have h1 := hc j hj
  have hlt := World.block_lt_of_cell? w _ h1
  by_cases e : (ad.add j).block = gt
  · exfalso
    have hbk : w.heap[(ad.add j).block]? = some (.cells (bools xs).toArray 4 (0, 0)) := by rw [e]; exact hb
    unfold World.cell? at h1
    rw [hbk] at h1
    simp only at h1
    split at h1
    · cases h1
    · simp only [bools, List.getElem?_toArray, List.getElem?_map] at h1
      cases hx : xs[(ad.add j).off]? with
      | none => rw [hx] at h1; simp at h1
      | some v => rw [hx] at h1; simp at h1
  · exact (World.cell?_of_block (w := w) (hk.2 _ hlt e)).trans h1

/-- The world without its blocks from g on. -/
def cutAt (w : World) (g : Nat) : World := { w with heap := w.heap.extract 0 g }
theorem cut_size (w : World) (g : Nat) (h : g ≤ w.heap.size) : (cutAt w g).heap.size = g := by simp [cutAt]; omega
theorem cut_below (w : World) (g : Nat) (h : g ≤ w.heap.size) : Below (cutAt w g).heap.size (cutAt w g) w := by
  refine ⟨rfl, rfl, rfl, by rw [cut_size w g h]; exact h, fun k hk => ?_⟩
  rw [cut_size w g h] at hk
  show _ = (w.heap.extract 0 g)[k]?
  rw [Array.getElem?_extract]
  simp [hk]
  intro h1
  omega

theorem appendPat (w : World) (gt N : Nat) (xs ys : List Bool) (A : Option Addr) (c : Nat) (ps : List Int) (col : Bool) (hb : Blk w gt 4 (bools (put xs ys)).toArray) (hN : xs.length = N) (h0 : 0 < N) (hm : N ≤ 1000000000)
    (m : Nat) (hpm : ps.length = m) (hC : Kd.C (Kd.int .i64) w A m ps) (hc : m ≤ c) (hp : ∀ p ∈ ps, 0 ≤ p ∧ p ≤ 1000000) (hpl : m ≤ 1000000) (hl : ys.length + (bars col ps).length ≤ N) :
    Calls Tryz.prog 145 #[.slice (some ⟨gt, 0, none⟩) N N, .int .i64 ys.length, .slice A m c, .bool col] w fun e w' => e = .returned (.int .i64 ((bars col ps).length : Nat)) ∧ Blk w' gt 4 (bools (put xs (ys ++ bars col ps))).toArray ∧ Upd w w' gt := by
  subst hpm
  obtain ⟨k, hk⟩ := (app_out xs ps (by omega) hp ps [] ys col 0 rfl (by omega) hpl (by omega) (by omega)).rounds
  have hpn := put_length xs ys (by omega)
  have hbl : gt ≤ w.heap.size := Nat.le_of_lt hb.lt
  have hr := R_of_blk hb (by rw [hpn, hN]) hm (base := (cutAt w gt).heap.size) (by rw [cut_size w gt hbl]; omega)
  refine (F.oned_onedWriter_appendPattern.calls k (fun i => i = gt) _ _ _ A c ps col _ _ (cutAt w gt) w (cut_below w gt hbl) hr (C_kept hb hC) hc (by
    unfold F.oned_onedWriter_appendPattern.f
    exact hk)).mono ?_
  rintro e w' ⟨rfl, h1, h2, h3⟩
  refine ⟨by simp, blk_of_R h1 h0, ⟨h2.os, h2.tape, h2.output, h3.1, fun i hi hn => h3.2 i hi hn⟩⟩
/-- The same, the place and the answer as they are spelled. -/
theorem appendPat' (w : World) (gt N : Nat) (xs ys : List Bool) (A : Option Addr) (c : Nat) (ps : List Int) (col : Bool) (pos r : Int) (hpos : (ys.length : Int) = pos) (hr : ((bars col ps).length : Int) = r) (hb : Blk w gt 4 (bools (put xs ys)).toArray) (hN : xs.length = N) (h0 : 0 < N) (hm : N ≤ 1000000000)
    (m : Nat) (hpm : ps.length = m) (hC : Kd.C (Kd.int .i64) w A m ps) (hc : m ≤ c) (hp : ∀ p ∈ ps, 0 ≤ p ∧ p ≤ 1000) (hpl : m ≤ 1000000) (hl : pos + r ≤ N) :
    Calls Tryz.prog 145 #[.slice (some ⟨gt, 0, none⟩) N N, .int .i64 pos, .slice A m c, .bool col] w fun e w' => e = .returned (.int .i64 r) ∧ Blk w' gt 4 (bools (put xs (ys ++ bars col ps))).toArray ∧ Upd w w' gt := by
  subst hpos hr
  exact appendPat w gt N xs ys A c ps col hb hN h0 hm m hpm hC hc (fun p h => by have := hp p h; omega) hpl (by omega)
def w128 : List Int := [212222, 222122, 222221, 121223, 121322, 131222, 122213, 122312, 132212, 221213, 221312, 231212, 112232, 122132, 122231, 113222, 123122, 123221, 223211, 221132, 221231, 213212, 223112, 312131, 311222, 321122, 321221, 312212, 322112, 322211, 212123, 212321, 232121, 111323, 131123, 131321, 112313, 132113, 132311, 211313, 231113, 231311, 112133, 112331, 132131, 113123, 113321, 133121, 313121, 211331, 231131, 213113, 213311, 213131, 311123, 311321, 331121, 312113, 312311, 332111, 314111, 221411, 431111, 111224, 111422, 121124, 121421, 141122, 141221, 112214, 112412, 122114, 122411, 142112, 142211, 241211, 221114, 413111, 241112, 134111, 111242, 121142, 121241, 114212, 124112, 124211, 411212, 421112, 421211, 212141, 214121, 412121, 111143, 111341, 131141, 114113, 114311, 411113, 411311, 113141, 114131, 311141, 411131, 211412, 211214, 211232, 2331112]
theorem build128 (W : World) : (Instr.buildSlice 40 107 ((w128.zipIdx.map fun p => (p.2, Value.int .i64 p.1)).toArray)).run Tryz.prog W = .ok (.slice (some ⟨W.heap.size, 0, none⟩) 107 107) (W.alloc (.cells (nums .i64 w128).toArray 3)) := by
  kernel_rfl
theorem wpList_build {P : Program} {ops : Array Oper} {rest : List Oper} {o : Oper} {a : Act} {Q : Exit → Act → World → Prop} {W W' : World} (hgd : o.guard = none) (t : TypeId) (len : Nat) (parts : Array (Nat × Operand)) (ho : o.op = .buildSlice t len parts)
    (vals : Array (Nat × Value)) (hv : (parts.map fun p => (p.1, a.eval p.2)) = vals) (v : Value) (hrun : (Instr.buildSlice t len vals).run P W = .ok v W') (k : wpList P ops Q rest (a.put o.dst v) W') : wpList P ops Q (o :: rest) a W := by
  refine wpList_plain hgd fun K hK => ?_
  subst hv
  unfold Oper.wp
  have e : (execOp a.eval o).run P W = .ok (.value v) W' := by
    unfold execOp
    rw [ho]
    simp only [Sem.run_bind]
    show Result.andThen ((Instr.buildSlice t len (parts.map fun p => (p.1, a.eval p.2))).run P W) _ = _
    rw [hrun]
    rfl
  rw [e]
  exact hK _ _ k

/-! ### Code 128: the patterns -/
def pats128 : List (List Int) := [[2, 1, 2, 2, 2, 2], [2, 2, 2, 1, 2, 2], [2, 2, 2, 2, 2, 1], [1, 2, 1, 2, 2, 3], [1, 2, 1, 3, 2, 2], [1, 3, 1, 2, 2, 2], [1, 2, 2, 2, 1, 3], [1, 2, 2, 3, 1, 2], [1, 3, 2, 2, 1, 2], [2, 2, 1, 2, 1, 3], [2, 2, 1, 3, 1, 2], [2, 3, 1, 2, 1, 2], [1, 1, 2, 2, 3, 2], [1, 2, 2, 1, 3, 2], [1, 2, 2, 2, 3, 1], [1, 1, 3, 2, 2, 2], [1, 2, 3, 1, 2, 2], [1, 2, 3, 2, 2, 1], [2, 2, 3, 2, 1, 1], [2, 2, 1, 1, 3, 2], [2, 2, 1, 2, 3, 1], [2, 1, 3, 2, 1, 2], [2, 2, 3, 1, 1, 2], [3, 1, 2, 1, 3, 1], [3, 1, 1, 2, 2, 2], [3, 2, 1, 1, 2, 2], [3, 2, 1, 2, 2, 1], [3, 1, 2, 2, 1, 2], [3, 2, 2, 1, 1, 2], [3, 2, 2, 2, 1, 1], [2, 1, 2, 1, 2, 3], [2, 1, 2, 3, 2, 1], [2, 3, 2, 1, 2, 1], [1, 1, 1, 3, 2, 3], [1, 3, 1, 1, 2, 3], [1, 3, 1, 3, 2, 1], [1, 1, 2, 3, 1, 3], [1, 3, 2, 1, 1, 3], [1, 3, 2, 3, 1, 1], [2, 1, 1, 3, 1, 3], [2, 3, 1, 1, 1, 3], [2, 3, 1, 3, 1, 1], [1, 1, 2, 1, 3, 3], [1, 1, 2, 3, 3, 1], [1, 3, 2, 1, 3, 1], [1, 1, 3, 1, 2, 3], [1, 1, 3, 3, 2, 1], [1, 3, 3, 1, 2, 1], [3, 1, 3, 1, 2, 1], [2, 1, 1, 3, 3, 1], [2, 3, 1, 1, 3, 1], [2, 1, 3, 1, 1, 3], [2, 1, 3, 3, 1, 1], [2, 1, 3, 1, 3, 1], [3, 1, 1, 1, 2, 3], [3, 1, 1, 3, 2, 1], [3, 3, 1, 1, 2, 1], [3, 1, 2, 1, 1, 3], [3, 1, 2, 3, 1, 1], [3, 3, 2, 1, 1, 1], [3, 1, 4, 1, 1, 1], [2, 2, 1, 4, 1, 1], [4, 3, 1, 1, 1, 1], [1, 1, 1, 2, 2, 4], [1, 1, 1, 4, 2, 2], [1, 2, 1, 1, 2, 4], [1, 2, 1, 4, 2, 1], [1, 4, 1, 1, 2, 2], [1, 4, 1, 2, 2, 1], [1, 1, 2, 2, 1, 4], [1, 1, 2, 4, 1, 2], [1, 2, 2, 1, 1, 4], [1, 2, 2, 4, 1, 1], [1, 4, 2, 1, 1, 2], [1, 4, 2, 2, 1, 1], [2, 4, 1, 2, 1, 1], [2, 2, 1, 1, 1, 4], [4, 1, 3, 1, 1, 1], [2, 4, 1, 1, 1, 2], [1, 3, 4, 1, 1, 1], [1, 1, 1, 2, 4, 2], [1, 2, 1, 1, 4, 2], [1, 2, 1, 2, 4, 1], [1, 1, 4, 2, 1, 2], [1, 2, 4, 1, 1, 2], [1, 2, 4, 2, 1, 1], [4, 1, 1, 2, 1, 2], [4, 2, 1, 1, 1, 2], [4, 2, 1, 2, 1, 1], [2, 1, 2, 1, 4, 1], [2, 1, 4, 1, 2, 1], [4, 1, 2, 1, 2, 1], [1, 1, 1, 1, 4, 3], [1, 1, 1, 3, 4, 1], [1, 3, 1, 1, 4, 1], [1, 1, 4, 1, 1, 3], [1, 1, 4, 3, 1, 1], [4, 1, 1, 1, 1, 3], [4, 1, 1, 3, 1, 1], [1, 1, 3, 1, 4, 1], [1, 1, 4, 1, 3, 1], [3, 1, 1, 1, 4, 1], [4, 1, 1, 1, 3, 1], [2, 1, 1, 4, 1, 2], [2, 1, 1, 2, 1, 4], [2, 1, 1, 2, 3, 2], [2, 3, 3, 1, 1, 1, 2]]
def pat128 (v : Int) : List Int := pats128.getD v.toNat []
def mods (v : Int) : List Bool := bars true (pat128 v)
def code128 (vs : List Int) : List Bool := vs.flatMap mods
def dig : Nat → Int → List Int → List Int
  | 0, _, a => a
  | k + 1, x, a => if x > 0 then dig k (x / 10) (x % 10 :: a) else a
set_option maxRecDepth 100000 in
theorem dig_look : ∀ n : Fin 107, dig 8 (w128.getD n.val 0) [] = pats128.getD n.val [] ∧ 0 ≤ w128.getD n.val 0 ∧ w128.getD n.val 0 < 10000000 := by decide +kernel
set_option maxRecDepth 100000 in
theorem mods_look : ∀ n : Fin 107, (mods (n.val : Int)).length = (if n.val = 106 then 13 else 11) ∧ (pats128.getD n.val []).length = (if n.val = 106 then 7 else 6) ∧ ∀ p ∈ pats128.getD n.val [], 1 ≤ p ∧ p ≤ 4 := by decide +kernel
set_option maxRecDepth 100000 in
theorem apart_look : ∀ v : Fin 107, ∀ n : Fin 106, n.val < v.val → (mods (v.val : Int)).take 11 ≠ mods (n.val : Int) := by decide +kernel
theorem dig128 (n : Nat) (h : n < 107) : dig 8 (w128.getD n 0) [] = pat128 n ∧ 0 ≤ w128.getD n 0 ∧ w128.getD n 0 < 10000000 := dig_look ⟨n, h⟩
theorem mods_len (v : Int) (h : 0 ≤ v ∧ v ≤ 105) : (mods v).length = 11 := by
  obtain ⟨n, rfl⟩ : ∃ n : Nat, v = n := ⟨v.toNat, by omega⟩
  rw [(mods_look ⟨n, by omega⟩).1, if_neg (by show n ≠ 106; omega)]
theorem mods_106 : (mods 106).length = 13 := (mods_look ⟨106, by omega⟩).1
theorem pat_len (v : Int) (h : 0 ≤ v ∧ v ≤ 105) : (pat128 v).length = 6 := by
  obtain ⟨n, rfl⟩ : ∃ n : Nat, v = n := ⟨v.toNat, by omega⟩
  unfold pat128
  rw [Int.toNat_natCast, (mods_look ⟨n, by omega⟩).2.1, if_neg (by show n ≠ 106; omega)]
theorem pat_106 : (pat128 106).length = 7 := (mods_look ⟨106, by omega⟩).2.1
theorem pat_rng (v : Int) (h : 0 ≤ v ∧ v ≤ 106) : ∀ p ∈ pat128 v, 1 ≤ p ∧ p ≤ 4 := by
  obtain ⟨n, rfl⟩ : ∃ n : Nat, v = n := ⟨v.toNat, by omega⟩
  unfold pat128
  rw [Int.toNat_natCast]
  exact (mods_look ⟨n, by omega⟩).2.2
theorem mods_apart (v n : Int) (h0 : 0 ≤ n) (h1 : n < v) (h2 : v ≤ 106) : (mods v).take 11 ≠ mods n := by
  obtain ⟨a, rfl⟩ : ∃ a : Nat, v = a := ⟨v.toNat, by omega⟩
  obtain ⟨b, rfl⟩ : ∃ b : Nat, n = b := ⟨n.toNat, by omega⟩
  exact apart_look ⟨a, by omega⟩ ⟨b, by omega⟩ (by show b < a; omega)
theorem code128_append (a b : List Int) : code128 (a ++ b) = code128 a ++ code128 b := by unfold code128; rw [List.flatMap_append]
theorem code128_one (v : Int) : code128 [v] = mods v := by unfold code128; simp
theorem code128_cons (v : Int) (r : List Int) : code128 (v :: r) = mods v ++ code128 r := rfl
theorem code128_len (vs : List Int) (h : ∀ v ∈ vs, 0 ≤ v ∧ v ≤ 105) : (code128 vs).length = 11 * vs.length := by
  induction vs with
  | nil => rfl
  | cons v r ih =>
    rw [code128_cons, List.length_append, mods_len v (h v (by simp)), ih (fun x hx => h x (by simp [hx])), List.length_cons]
    omega
/-- The check's sum. -/
def wsum (vs : List Int) : Nat → Int
  | 0 => rd vs 0
  | k + 1 => wsum vs k + ((k + 1 : Nat) : Int) * rd vs ((k + 1 : Nat) : Int)
def chk128 (vs : List Int) : Int := wsum vs (vs.length - 1) % 103
theorem chk_rng (vs : List Int) : 0 ≤ chk128 vs ∧ chk128 vs ≤ 102 := by unfold chk128; omega
theorem wsum_append (vs r : List Int) (k : Nat) (h : k < vs.length) : wsum (vs ++ r) k = wsum vs k := by
  have hrd : ∀ j : Nat, j < vs.length → rd (vs ++ r) (j : Int) = rd vs (j : Int) := by
    intro j hj
    unfold rd
    rw [Int.toNat_natCast, List.getD_eq_getElem?_getD, List.getElem?_append_left hj, List.getD_eq_getElem?_getD]
  induction k with
  | zero => exact hrd 0 h
  | succ k ih => rw [wsum, wsum, ih (by omega), hrd (k + 1) h]
theorem rd_rng (vs : List Int) (h : ∀ v ∈ vs, 0 ≤ v ∧ v ≤ 105) (j : Int) : 0 ≤ rd vs j ∧ rd vs j ≤ 105 := by
  unfold rd
  rw [List.getD_eq_getElem?_getD]
  rcases Nat.lt_or_ge j.toNat vs.length with hj | hj
  · rw [List.getElem?_eq_getElem hj]; exact h _ (List.getElem_mem hj)
  · rw [List.getElem?_eq_none hj]; decide
theorem wsum_bound (vs : List Int) (h : ∀ v ∈ vs, 0 ≤ v ∧ v ≤ 105) (hl : vs.length ≤ 1000) (k : Nat) (hk : k ≤ 1000) : 0 ≤ wsum vs k ∧ wsum vs k ≤ 105000 * (k + 1) := by
  have hrd := rd_rng vs h
  induction k with
  | zero => have := hrd 0; rw [wsum]; omega
  | succ k ih =>
    have h1 := hrd ((k + 1 : Nat) : Int)
    have h2 := ih (by omega)
    have h3 : 0 ≤ ((k + 1 : Nat) : Int) * rd vs ((k + 1 : Nat) : Int) := Int.mul_nonneg (by omega) h1.1
    have h4 : ((k + 1 : Nat) : Int) * rd vs ((k + 1 : Nat) : Int) ≤ 1000 * 105 := Int.mul_le_mul (by omega) h1.2 h1.1 (by omega)
    rw [wsum]
    omega

def vals128 : Array (Nat × Value) := (w128.zipIdx.map fun p => (p.2, Value.int .i64 p.1)).toArray
def parts128 : Array (Nat × Operand) := (w128.zipIdx.map fun p => (p.2, Operand.const (.int .i64 p.1))).toArray
theorem vals128_eq (a : Act) : (parts128.map fun p => (p.1, a.eval p.2)) = vals128 := by kernel_rfl
set_option maxHeartbeats 4000000 in
set_option maxRecDepth 100000 in
theorem od128 (w : World) (n : Nat) (h : n < 107) : Calls Tryz.prog 45 #[.int .i64 n] w fun e w' => e = .returned (.int .i64 (w128.getD n 0)) ∧ Below w.heap.size w w' := by
  have hb := Aside0.mk (build128 w)
  obtain ⟨w1, hw1⟩ : ∃ w1, w.alloc (.cells (nums .i64 w128).toArray 3) = w1 := ⟨_, rfl⟩
  have hc : w1.cell? ⟨w.heap.size, n, none⟩ = some (.int .i64 (w128.getD n 0)) := by
    have h1 := (show Blk w1 w.heap.size 3 (nums .i64 w128).toArray by rw [← hw1]; exact Blk.new _ _ _).ucell (n : Int) (by omega) (by have : w128.length = 107 := rfl; omega)
    rw [Int.toNat_natCast] at h1
    rw [h1]
    unfold rd
    rw [Int.toNat_natCast]
  have HB := Aside0.mk (show Below w.heap.size w w1 by rw [← hw1]; exact below_alloc (Below.refl _ _) _)
  rw [hw1] at hb
  obtain ⟨r, hr⟩ : ∃ r, w128.getD n 0 = r := ⟨_, rfl⟩
  rw [hr] at hc ⊢
  have hn : (n : Int) < 107 := by omega
  clear hw1 hr h
  go_enter Tryz.func45, Tryz.ntmps45
  conv in Op.buildSlice 40 107 _ => change Op.buildSlice 40 107 parts128
  go_wp2_with ((with_reducible refine gate_dst (N := 4) rfl ?_); refine wpList_build rfl 40 107 parts128 rfl vals128 (vals128_eq _) _ hb.out ?_)
  go_ret
  exact ⟨rfl, HB.out⟩
theorem cut_len {α : Type} (l : List α) (a b : Int) (h : b ≤ (l.length : Int)) : ((l.take b.toNat).drop a.toNat).length = b.toNat - a.toNat := by
  rw [List.length_drop, List.length_take]; omega

/-! ### A straight row of operations, run at once -/
def runOps (P : Program) : List Oper → Act → World → Option (Act × World)
  | [], a, w => some (a, w)
  | o :: r, a, w => match o.guard, (execOp a.eval o).run P w with
    | none, .ok (.value v) w' => runOps P r (a.put o.dst v) w'
    | _, _ => none
theorem wpList_runOps {P : Program} {ops : Array Oper} {Q : Exit → Act → World → Prop} : ∀ (L : List Oper) (a : Act) (w : World) (a' : Act) (w' : World) (rest : List Oper), runOps P L a w = some (a', w') → wpList P ops Q rest a' w' → wpList P ops Q (L ++ rest) a w := by
  intro L
  induction L with
  | nil =>
    intro a w a' w' rest h k
    simp only [runOps, Option.some.injEq, Prod.mk.injEq] at h
    obtain ⟨rfl, rfl⟩ := h
    exact k
  | cons o r ih =>
    intro a w a' w' rest h k
    rw [runOps] at h
    split at h
    · rename_i v w1 hg hr
      refine wpList_plain hg fun K hK => ?_
      unfold Oper.wp
      rw [hr]
      exact hK _ _ (ih _ _ _ _ _ h k)
    · cases h

/-! ### Code 128: the table of patterns, walked row by row -/
def opsOf (f : Func) : Array Oper := match f.body with
  | some (.seq _ (.seq (.region _ ops _) _)) => ops
  | _ => #[]
def opAt (f : Func) (n : Nat) : Oper := (opsOf f).toList.getD n default
def rowOp (i : Nat) (r : List Int) : Oper := { dst := some (i + 1), op := .buildSlice 40 r.length ((r.zipIdx.map fun p => (p.2, Operand.const (.int .i64 p.1))).toArray), type := 40, pos := "code128_reader.go:12", after := #[], guard := none }
def rowOps : List (List Int) → Nat → List Oper
  | [], _ => []
  | r :: L, i => rowOp i r :: rowOps L (i + 1)
set_option maxRecDepth 100000 in
theorem ops156_eq : (opsOf Tryz.f156).toList = rowOps pats128 0 ++ (opsOf Tryz.f156).toList.drop 107 := by kernel_rfl
def allocRows : List (List Int) → World → World
  | [], w => w
  | r :: L, w => allocRows L (w.alloc (.cells (nums .i64 r).toArray 3))
def putRows : List (List Int) → Nat → Nat → Act → Act
  | [], _, _, a => a
  | r :: L, i, g, a => putRows L (i + 1) (g + 1) (a.put (some (i + 1)) (.slice (some ⟨g, 0, none⟩) r.length r.length))
theorem build6 (a b c d e f : Int) (W : World) : (Instr.buildSlice 40 6 #[(0, .int .i64 a), (1, .int .i64 b), (2, .int .i64 c), (3, .int .i64 d), (4, .int .i64 e), (5, .int .i64 f)]).run Tryz.prog W = .ok (.slice (some ⟨W.heap.size, 0, none⟩) 6 6) (W.alloc (.cells (nums .i64 [a, b, c, d, e, f]).toArray 3)) := by kernel_rfl
theorem build7 (a b c d e f g : Int) (W : World) : (Instr.buildSlice 40 7 #[(0, .int .i64 a), (1, .int .i64 b), (2, .int .i64 c), (3, .int .i64 d), (4, .int .i64 e), (5, .int .i64 f), (6, .int .i64 g)]).run Tryz.prog W = .ok (.slice (some ⟨W.heap.size, 0, none⟩) 7 7) (W.alloc (.cells (nums .i64 [a, b, c, d, e, f, g]).toArray 3)) := by kernel_rfl
set_option maxRecDepth 100000 in
theorem row_wp {ops : Array Oper} {rest : List Oper} {Q : Exit → Act → World → Prop} {a : Act} {W : World} (i : Nat) (r : List Int) (hr : r.length = 6 ∨ r.length = 7) (k : wpList Tryz.prog ops Q rest (a.put (some (i + 1)) (.slice (some ⟨W.heap.size, 0, none⟩) r.length r.length)) (W.alloc (.cells (nums .i64 r).toArray 3))) :
    wpList Tryz.prog ops Q (rowOp i r :: rest) a W := by
  rcases hr with h | h
  · match r, h, k with
    | [x0, x1, x2, x3, x4, x5], _, k => exact wpList_build rfl 40 6 _ rfl #[(0, .int .i64 x0), (1, .int .i64 x1), (2, .int .i64 x2), (3, .int .i64 x3), (4, .int .i64 x4), (5, .int .i64 x5)] (by kernel_rfl) _ (build6 x0 x1 x2 x3 x4 x5 W) k
  · match r, h, k with
    | [x0, x1, x2, x3, x4, x5, x6], _, k => exact wpList_build rfl 40 7 _ rfl #[(0, .int .i64 x0), (1, .int .i64 x1), (2, .int .i64 x2), (3, .int .i64 x3), (4, .int .i64 x4), (5, .int .i64 x5), (6, .int .i64 x6)] (by kernel_rfl) _ (build7 x0 x1 x2 x3 x4 x5 x6 W) k
theorem rows_wp {ops : Array Oper} {rest : List Oper} {Q : Exit → Act → World → Prop} : ∀ (L : List (List Int)) (i : Nat) (a : Act) (W : World), (∀ r ∈ L, r.length = 6 ∨ r.length = 7) → wpList Tryz.prog ops Q rest (putRows L i W.heap.size a) (allocRows L W) → wpList Tryz.prog ops Q (rowOps L i ++ rest) a W := by
  intro L
  induction L with
  | nil => intro i a W _ k; exact k
  | cons r L ih =>
    intro i a W hL k
    refine row_wp i r (hL r (by simp)) (ih (i + 1) _ _ (fun x hx => hL x (by simp [hx])) ?_)
    have : (W.alloc (.cells (nums .i64 r).toArray 3)).heap.size = W.heap.size + 1 := by simp
    rw [this]
    exact k
theorem put_size : ∀ (L : List (List Int)) (i g : Nat) (a : Act), (putRows L i g a).tmps.size = a.tmps.size := by
  intro L
  induction L with
  | nil => intro i g a; rfl
  | cons r L ih => intro i g a; rw [putRows, ih, Act.size_put]
theorem put_defers : ∀ (L : List (List Int)) (i g : Nat) (a : Act), (putRows L i g a).defers = a.defers := by
  intro L
  induction L with
  | nil => intro i g a; rfl
  | cons r L ih => intro i g a; rw [putRows, ih, Act.defers_put']
theorem put_eval : ∀ (L : List (List Int)) (i g : Nat) (a : Act) (j : Nat), i + L.length < a.tmps.size → (putRows L i g a).eval (.tmp j) = if i < j ∧ j ≤ i + L.length then .slice (some ⟨g + (j - i - 1), 0, none⟩) (L.getD (j - i - 1) []).length (L.getD (j - i - 1) []).length else a.eval (.tmp j) := by
  intro L
  induction L with
  | nil => intro i g a j hs; rw [putRows, if_neg (by simp)]
  | cons r L ih =>
    intro i g a j hs
    rw [List.length_cons] at hs
    rw [putRows, ih _ _ _ _ (by rw [Act.size_put]; omega), List.length_cons]
    by_cases h1 : i + 1 < j ∧ j ≤ i + 1 + L.length
    · rw [if_pos h1, if_pos (by omega), show j - i - 1 = (j - (i + 1) - 1) + 1 by omega, List.getD_cons_succ, show g + 1 + (j - (i + 1) - 1) = g + (j - (i + 1) - 1 + 1) by omega]
    · rw [if_neg h1]
      by_cases h2 : j = i + 1
      · subst h2
        rw [if_pos (by omega), show i + 1 - i - 1 = 0 by omega, Act.eval_put_same _ _ _ (by omega)]
        rfl
      · rw [if_neg (by omega), Act.eval_put_ne _ _ _ _ (fun h => h2 h.symm)]
theorem alloc_size : ∀ (L : List (List Int)) (W : World), (allocRows L W).heap.size = W.heap.size + L.length := by
  intro L
  induction L with
  | nil => intro W; rfl
  | cons r L ih => intro W; rw [allocRows, ih]; simp; omega
theorem alloc_below : ∀ (L : List (List Int)) (W : World), Below W.heap.size W (allocRows L W) := by
  intro L
  induction L with
  | nil => intro W; exact Below.refl _ _
  | cons r L ih =>
    intro W
    have h1 := below_alloc (Below.refl W.heap.size W) (.cells (nums .i64 r).toArray 3)
    exact h1.trans ((ih _).mono h1.size)
theorem alloc_blk : ∀ (L : List (List Int)) (W : World) (j : Nat), j < L.length → Blk (allocRows L W) (W.heap.size + j) 3 (nums .i64 (L.getD j [])).toArray := by
  intro L
  induction L with
  | nil => intro W j h; cases h
  | cons r L ih =>
    intro W j h
    cases j with
    | zero =>
      have h0 := Blk.new W 3 (nums .i64 r).toArray
      exact h0.below (alloc_below L _) h0.lt
    | succ j =>
      rw [List.length_cons] at h
      have h1 := ih (W.alloc (.cells (nums .i64 r).toArray 3)) j (by omega)
      have : (W.alloc (.cells (nums .i64 r).toArray 3)).heap.size = W.heap.size + 1 := by simp
      rw [this] at h1
      rw [List.getD_cons_succ, show W.heap.size + (j + 1) = W.heap.size + 1 + j by omega]
      exact h1
def hdrs (g : Nat) : List Value := (List.range 107).map fun n => .slice (some ⟨g + n, 0, none⟩) (pats128.getD n []).length (pats128.getD n []).length
def valsH (g : Nat) : Array (Nat × Value) := ((List.range 107).map fun n => (n, Value.slice (some ⟨g + n, 0, none⟩) (pats128.getD n []).length (pats128.getD n []).length)).toArray
set_option maxRecDepth 100000 in
theorem buildH (g : Nat) (W : World) : (Instr.buildSlice 188 107 (valsH g)).run Tryz.prog W = .ok (.slice (some ⟨W.heap.size, 0, none⟩) 107 107) (W.alloc (.cells (hdrs g).toArray 40)) := by kernel_rfl
set_option maxRecDepth 100000 in
theorem ops156_last : (opsOf Tryz.f156).toList.drop 107 = [(opAt Tryz.f156 107), (opAt Tryz.f156 108)] := by kernel_rfl
def partsH : Array (Nat × Operand) := ((List.range 107).map fun n => (n, Operand.tmp (n + 1))).toArray
set_option maxRecDepth 100000 in
theorem opH_op : (opAt Tryz.f156 107).op = .buildSlice 188 107 partsH := by kernel_rfl
set_option maxRecDepth 100000 in
theorem opH_dst : (opAt Tryz.f156 107).dst = some 108 ∧ (opAt Tryz.f156 107).guard = none := ⟨by kernel_rfl, by kernel_rfl⟩
set_option maxRecDepth 100000 in
theorem opR_op : (opAt Tryz.f156 108).op = .assign (.tmp 108) ∧ (opAt Tryz.f156 108).dst = some 0 ∧ (opAt Tryz.f156 108).guard = none := ⟨by kernel_rfl, by kernel_rfl, by kernel_rfl⟩
theorem pats_len : pats128.length = 107 := rfl
theorem hdr_eval (L : List (List Int)) (hL : L.length = 107) (g : Nat) (a : Act) (hs : 107 < a.tmps.size) (n : Nat) (hn : n < 107) : (putRows L 0 g a).eval (.tmp (n + 1)) = .slice (some ⟨g + n, 0, none⟩) (L.getD n []).length (L.getD n []).length := by
  have hq := put_eval L 0 g a (n + 1) (by omega)
  rw [if_pos (by omega), show n + 1 - 0 - 1 = n by omega] at hq
  exact hq
theorem partsH_eval (g : Nat) (a : Act) (hs : 107 < a.tmps.size) : (partsH.map fun p => (p.1, (putRows pats128 0 g a).eval p.2)) = valsH g := by
  have h := hdr_eval pats128 pats_len g a hs
  revert h
  unfold partsH valsH
  generalize putRows pats128 0 g a = b
  generalize pats128 = L
  intro h
  simp only [List.map_toArray, List.map_map]
  refine congrArg List.toArray (List.map_congr_left ?_)
  intro n hn
  exact congrArg (fun v => (n, v)) (h n (List.mem_range.1 hn))
theorem end156 (b : Act) (v : Value) (W : World) (h : 0 < b.tmps.size) : (results Tryz.f156 (b.put (some 0) v).tmps).run Tryz.prog W = .ok v W := by
  refine (results_tmp rfl _ _ _).trans ?_
  exact congrArg (fun x => Result.ok x W) (Act.eval_put_same b 0 v h)
theorem wpList_assign {P : Program} {ops : Array Oper} {rest : List Oper} {o : Oper} {a : Act} {Q : Exit → Act → World → Prop} {W : World} (hgd : o.guard = none) (x : Operand) (ho : o.op = .assign x) (k : wpList P ops Q rest (a.put o.dst (a.eval x)) W) : wpList P ops Q (o :: rest) a W := by
  refine wpList_plain hgd fun K hK => ?_
  unfold Oper.wp
  have e : (execOp a.eval o).run P W = .ok (.value (a.eval x)) W := by
    unfold execOp
    rw [ho]
    rfl
  rw [e]
  exact hK _ _ k
def World156 (w : World) : World := (allocRows pats128 w).alloc (.cells (hdrs w.heap.size).toArray 40)
theorem pats_rows : ∀ r ∈ pats128, r.length = 6 ∨ r.length = 7 := by decide +kernel
theorem region156 {Q : Exit → Act → World → Prop} (a : Act) (w : World) (hs : a.tmps.size = 109)
    (k : wpList Tryz.prog (opsOf Tryz.f156) Q [] (((putRows pats128 0 w.heap.size a).put (some 108) (.slice (some ⟨w.heap.size + 107, 0, none⟩) 107 107)).put (some 0) (.slice (some ⟨w.heap.size + 107, 0, none⟩) 107 107)) (World156 w)) :
    wpList Tryz.prog (opsOf Tryz.f156) Q (opsOf Tryz.f156).toList a w := by
  rw [ops156_eq, ops156_last]
  refine rows_wp pats128 0 a w pats_rows ?_
  refine wpList_build opH_dst.2 188 107 partsH opH_op (valsH w.heap.size) (partsH_eval _ a (by omega)) _ (buildH w.heap.size _) ?_
  refine wpList_assign opR_op.2.2 (.tmp 108) opR_op.1 ?_
  rw [opH_dst.1, opR_op.2.1, Act.eval_put_same _ _ _ (by rw [put_size]; omega), alloc_size]
  exact k
set_option maxHeartbeats 4000000 in
set_option maxRecDepth 100000 in
theorem pats156 (w : World) : Calls Tryz.prog 156 #[] w fun e w' => e = .returned (.slice (some ⟨w.heap.size + 107, 0, none⟩) 107 107) ∧ w' = World156 w := by
  go_enter Tryz.func156, Tryz.ntmps156
  conv in Code.region 1 _ _ => change Code.region 1 (opsOf Tryz.f156) false
  refine wp_seq (wp_region_list ?_)
  refine wpList_assign rfl (.const (.slice none 0 0)) rfl (wpList_nil ?_)
  refine wp_seq (wp_region_list (region156 _ _ rfl (wpList_nil ?_)))
  refine wp_ret ?_
  refine bodyPost_ret (v := .slice (some ⟨w.heap.size + 107, 0, none⟩) 107 107) ?_ ?_ ⟨rfl, rfl⟩
  · exact end156 _ _ _ (by rw [Act.size_put, put_size]; decide)
  · rw [Act.defers_put', Act.defers_put', put_defers]
    rfl

/-! ### Code 128: the runes of a text of bytes below 128; the table's rows; the rows taken -/
theorem str_byte (xs : List Int) (i : Nat) (hi : i < (strOfNums xs).size) (h : i < xs.length) (hr : ∀ v ∈ xs, 0 ≤ v ∧ v < 128) : (((strOfNums xs)[i]'hi).toNat : Int) = xs[i] := by
  have hx := hr _ (List.getElem_mem h)
  have e : (strOfNums xs)[i]'hi = UInt8.ofNat (xs[i]).toNat := by
    show (strOfNums xs).data[i]'hi = _
    simp [strOfNums]
  rw [e]
  have e2 : (UInt8.ofNat (xs[i]).toNat).toNat = (xs[i]).toNat % 256 := rfl
  rw [e2]; omega
theorem runes_run (xs : List Int) (hr : ∀ v ∈ xs, 0 ≤ v ∧ v < 128) : ∀ (d b i : Nat) (acc : Array Value), i + d = xs.length → d ≤ b → Conv.runesFrom (strOfNums xs) b i acc = acc ++ (nums .i32 (xs.drop i)).toArray := by
  have hs : (strOfNums xs).size = xs.length := str_size9 xs
  intro d
  induction d with
  | zero =>
    intro b i acc hi hb
    rw [List.drop_of_length_le (by omega)]
    cases b with
    | zero => simp [Conv.runesFrom, nums]
    | succ b => rw [Conv.runesFrom, if_neg (by omega)]; simp [nums]
  | succ d ih =>
    intro b i acc hi hb
    obtain ⟨b, rfl⟩ : ∃ c, b = c + 1 := ⟨b - 1, by omega⟩
    have hi2 : i < (strOfNums xs).size := by omega
    have hi3 : i < xs.length := by omega
    have hx := hr _ (List.getElem_mem hi3)
    have hb := str_byte xs i hi2 hi3 hr
    have hd := decode_ascii (strOfNums xs) i hi2 (by omega)
    rw [Conv.runesFrom, if_pos hi2, hd]
    dsimp only
    rw [ih b (i + 1) _ (by omega) (by omega), List.drop_eq_getElem_cons hi3]
    simp only [Int.ofNat_eq_natCast, hb]
    rw [show nums .i32 (xs[i] :: xs.drop (i + 1)) = .int .i32 xs[i] :: nums .i32 (xs.drop (i + 1)) from rfl]
    apply Array.toList_inj.1
    simp
theorem runes_eq (xs : List Int) (hr : ∀ v ∈ xs, 0 ≤ v ∧ v < 128) : Conv.runesFrom (strOfNums xs) (strOfNums xs).size 0 #[] = (nums .i32 xs).toArray := by
  rw [runes_run xs hr xs.length _ 0 #[] (by omega) (by rw [str_size9]; omega)]
  simp
theorem conv_runes (xs : List Int) (n : Nat) (hn : xs.length = n) (hm : n ≤ 1000) (hr : ∀ v ∈ xs, 0 ≤ v ∧ v < 128) (W : World) :
    ∃ (c : Nat) (W' : World), n ≤ c ∧ (convert 9 187 (.string (strOfNums xs))).run Tryz.prog W = .ok (.slice (some ⟨W.heap.size, 0, none⟩) n c) W' ∧ Below W.heap.size W W' ∧
      ∃ zs : List Value, Blk W' W.heap.size 21 (nums .i32 xs ++ zs).toArray := by
  have hz : (Conv.runesFrom (strOfNums xs) (strOfNums xs).size 0 #[]).size = n := by rw [runes_eq xs hr]; simp [nums, hn]
  have h := run_runes_of_string (P := Tryz.prog) W 9 187 21 (strOfNums xs) Tryz.underlying9 Tryz.underlying187 Tryz.underlying21 (by rw [hz]; omega)
  have hc := grownCap_ge W (Conv.runesFrom (strOfNums xs) (strOfNums xs).size 0 #[]).size 0 21
  rw [hz] at h hc
  rw [runes_eq xs hr] at h
  refine ⟨_, _, hc, h, ?_, List.replicate (grownCap W n 0 21 - n) (.int .i32 0), ?_⟩
  · exact below_alloc (below_drew1 (Below.refl _ W)) _
  · have := Blk.new W.drew 21 ((nums .i32 xs).toArray ++ Array.replicate (grownCap W n 0 21 - n) (.int .i32 0))
    have e : (nums .i32 xs ++ List.replicate (grownCap W n 0 21 - n) (Value.int .i32 0)).toArray = (nums .i32 xs).toArray ++ Array.replicate (grownCap W n 0 21 - n) (.int .i32 0) := by simp
    rw [e]
    exact this
theorem runes_cell {W : World} {g : Nat} {xs : List Int} {zs : List Value} (h : Blk W g 21 (nums .i32 xs ++ zs).toArray) (i : Nat) (hi : i < xs.length) : W.cell? ⟨g, i, none⟩ = some (.int .i32 (rd xs i)) := by
  rw [h.cell]
  unfold rd
  rw [Int.toNat_natCast, List.getD_eq_getElem?_getD, List.getElem?_eq_getElem hi]
  simp [nums, List.getElem?_append_left, hi]
theorem runes_C {W : World} {g : Nat} {xs : List Int} {zs : List Value} (h : Blk W g 21 (nums .i32 xs ++ zs).toArray) (hm : xs.length ≤ 1000) : Kd.C (Kd.int .i32) W (some ⟨g, 0, none⟩) xs.length xs := by
  refine Kd.C_of_reads (d := (0 : Int)) (h1 := fun _ => rfl) ⟨rfl, by omega, fun _ => ⟨_, rfl, fun j hj => ?_⟩⟩
  rw [add_plain, runes_cell h j hj]
  unfold rd
  rw [Int.toNat_natCast]
theorem conv_rune (b : Int) (h : 0 ≤ b ∧ b < 128) (W : World) : (convert 21 3 (.int .i32 b)).run Tryz.prog W = .ok (.int .i64 b) W := by
  have hw : wrap64 b = b := by unfold wrap64; omega
  have h1 := run_convert_int (P := Tryz.prog) (w := W) 21 3 .i32 b (by kernel_rfl) (by kernel_rfl)
  have hk : Tryz.prog.intKind 3 = .i64 := by kernel_rfl
  rw [hk] at h1
  refine h1.trans ?_
  rw [i64_w, hw]
theorem run_lk_no (W : World) (gm : Nat) (v : Value) (h : W.heap[gm]? = some (.map #[⟨.int .i64 5, v, 0⟩] 1)) : (Instr.lookup 51 (.map (some gm)) (.int .i64 13) true).run Tryz.prog W = .ok (.tuple #[.nilIface, .bool false]) W := by
  unfold Instr.lookup
  simp only [Sem.run_bind, run_underlying Tryz.underlying51, Result.andThen_ok, getObj_map _ _ _ _ h, Sem.run_pure, chk_key]
  simp [Instr.findKey, run_underlying Tryz.underlying50, Instr.findNow, Instr.sameNow]
/-- The table, asked for one row. -/
theorem patAt (w : World) (v : Int) (h : 0 ≤ v ∧ v ≤ 106) : Calls Tryz.prog 156 #[] w fun e w' => ∃ A g, e = .returned (.slice (some ⟨A, 0, none⟩) 107 107) ∧ w'.cell? ⟨A, v.toNat, none⟩ = some (.slice (some ⟨g, 0, none⟩) (pat128 v).length (pat128 v).length) ∧
    Blk w' g 3 (nums .i64 (pat128 v)).toArray ∧ w.heap.size ≤ g ∧ Below w.heap.size w w' := by
  refine (pats156 w).mono ?_
  rintro e w' ⟨rfl, rfl⟩
  have hz := alloc_size pats128 w
  rw [pats_len] at hz
  have hb := alloc_below pats128 w
  have hn : v.toNat < 107 := by omega
  have hk := alloc_blk pats128 w v.toNat (by rw [pats_len]; exact hn)
  unfold World156
  have hB := Blk.new (allocRows pats128 w) 40 (hdrs w.heap.size).toArray
  rw [hz] at hB
  refine ⟨w.heap.size + 107, w.heap.size + v.toNat, rfl, ?_, ?_, Nat.le_add_right _ _, ?_⟩
  · rw [hB.cell]
    unfold hdrs pat128
    rw [List.getElem?_toArray, List.getElem?_map, List.getElem?_range hn]
    rfl
  · exact hk.alloc _
  · exact hb.trans ((below_alloc (Below.refl _ _) _).mono hb.size)
/-- The rows that were taken: their headers, and what they read. -/
def Took (w : World) (base : Nat) (hs : List Value) (vs : List Int) : Prop :=
  hs.length = vs.length ∧ ∀ i, i < vs.length → ∃ g, hs[i]? = some (.slice (some ⟨g, 0, none⟩) (pat128 (rd vs i)).length (pat128 (rd vs i)).length) ∧ Blk w g 3 (nums .i64 (pat128 (rd vs i))).toArray ∧ base ≤ g
theorem Took.nil (w : World) (base : Nat) : Took w base [] [] := ⟨rfl, fun i h => by cases h⟩
theorem Took.below {w w' : World} {base : Nat} {hs : List Value} {vs : List Int} (h : Took w base hs vs) (hb : Below w.heap.size w w') : Took w' base hs vs := ⟨h.1, fun i hi => by
  obtain ⟨g, h1, h2, h3⟩ := h.2 i hi
  exact ⟨g, h1, h2.below hb h2.lt, h3⟩⟩
theorem Took.grown {w w' : World} {base b0 n : Nat} {hs xs : List Value} {vs : List Int} {v : Value} (h : Took w base hs vs) (ho : w.ownsRow b0 40 1 v n xs) (hg : w.grownBy w' v.ownBlock) : Took w' base hs vs := ⟨h.1, fun i hi => by
  obtain ⟨g, h1, h2, h3⟩ := h.2 i hi
  exact ⟨g, h1, (hg.block g h2.lt (own_ne ho h2 (by decide))).trans h2, h3⟩⟩
theorem Took.snoc {w : World} {base : Nat} {hs : List Value} {vs : List Int} (h : Took w base hs vs) (v : Int) (g : Nat) (hk : Blk w g 3 (nums .i64 (pat128 v)).toArray) (hg : base ≤ g) : Took w base (hs ++ [.slice (some ⟨g, 0, none⟩) (pat128 v).length (pat128 v).length]) (vs ++ [v]) := by
  refine ⟨by simp [h.1], fun i hi => ?_⟩
  rw [List.length_append, List.length_singleton] at hi
  by_cases hl : i < vs.length
  · obtain ⟨g', h1, h2, h3⟩ := h.2 i hl
    have e : rd (vs ++ [v]) (i : Int) = rd vs (i : Int) := by
      unfold rd
      rw [Int.toNat_natCast, List.getD_eq_getElem?_getD, List.getElem?_append_left hl, List.getD_eq_getElem?_getD]
    rw [e]
    exact ⟨g', by rw [List.getElem?_append_left (by rw [h.1]; exact hl)]; exact h1, h2, h3⟩
  · obtain rfl : i = vs.length := by omega
    have e : rd (vs ++ [v]) (vs.length : Int) = v := by
      unfold rd
      rw [Int.toNat_natCast, List.getD_eq_getElem?_getD, List.getElem?_append_right (Nat.le_refl _), Nat.sub_self]; rfl
    rw [e]
    exact ⟨g, by rw [List.getElem?_append_right (by rw [h.1]; exact Nat.le_refl _), h.1, Nat.sub_self]; rfl, hk, hg⟩
/-- The rows taken, in their own slice. -/
def Rows (w : World) (base : Nat) (v : Value) (vs : List Int) : Prop := ∃ hs, w.ownsRow base 40 1 v hs.length hs ∧ Took w base hs vs
theorem Rows.below {w w' : World} {base : Nat} {v : Value} {vs : List Int} (h : Rows w base v vs) (hb : Below w.heap.size w w') : Rows w' base v vs := by
  obtain ⟨hs, h1, h2⟩ := h
  exact ⟨hs, pw_own_below h1 hb, h2.below hb⟩

/-! ### Code 128: the running sum of the check -/
def sum128 (xs : List Int) (X : Nat → Int) (k : Nat) : Int := if k = 0 then 0 else wsum (full128 xs X) (k - 1)
def wt128 (k : Nat) : Int := if k = 0 then 1 else k
theorem sum_bound (xs : List Int) (X : Nat → Int) (hX : ∀ p, X p = 99 ∨ X p = 100) (hr : ∀ v ∈ xs, 0 ≤ v ∧ v < 128) (h0 : 0 < xs.length) (hn : xs.length ≤ 60) (k : Nat) (hk : k ≤ 200) : 0 ≤ sum128 xs X k ∧ sum128 xs X k ≤ 30000000 := by
  have hf := full_facts xs X hX hr h0
  unfold sum128
  by_cases h : k = 0
  · rw [if_pos h]; omega
  · rw [if_neg h]
    have := wsum_bound (full128 xs X) hf.2.2.2 (by omega) (k - 1) (by omega)
    omega
theorem sum_step (xs : List Int) (X : Nat → Int) (hX : ∀ p, X p = 99 ∨ X p = 100) (hr : ∀ v ∈ xs, 0 ≤ v ∧ v < 128) (h0 : 0 < xs.length) (hn : xs.length ≤ 60) (k p : Nat) (s : Int) (acc : List Int) (v : Int) (hm : mach xs X k = ⟨p, s, acc⟩) (hl : acc.length = k) (hp : p < xs.length) (hv : (mach xs X (k + 1)).acc = acc ++ [v]) :
    k ≤ 122 ∧ 0 ≤ v ∧ v ≤ 105 ∧ sum128 xs X (k + 1) = sum128 xs X k + v * wt128 k := by
  have hi := mach_inv xs X hX hr k
  have hi1 := mach_inv xs X hX hr (k + 1)
  have hlen := hi.len
  rw [hm] at hlen
  have hlen2 : acc.length ≤ 2 * p + 2 := hlen
  have hvr : 0 ≤ v ∧ v ≤ 105 := hi1.rng v (by rw [hv]; simp)
  obtain ⟨r, hr2⟩ := mach_pre xs X hX hr k (by rw [hm]; exact hp)
  rw [hv] at hr2
  have hrd : rd (full128 xs X) (k : Int) = v := by
    unfold rd
    rw [hr2, Int.toNat_natCast, List.getD_eq_getElem?_getD, List.append_assoc, List.getElem?_append_right (by omega), hl, Nat.sub_self]; rfl
  refine ⟨by omega, hvr.1, hvr.2, ?_⟩
  unfold sum128 wt128
  cases k with
  | zero =>
    rw [if_neg (by omega), if_pos rfl, if_pos rfl, Nat.add_sub_cancel, wsum, Int.mul_one, Int.zero_add]
    exact hrd
  | succ k =>
    rw [if_neg (by omega), if_neg (by omega), if_neg (by omega), Nat.add_sub_cancel, Nat.add_sub_cancel, wsum, hrd, Int.mul_comm]
theorem sum_end (xs : List Int) (X : Nat → Int) (hX : ∀ p, X p = 99 ∨ X p = 100) (hr : ∀ v ∈ xs, 0 ≤ v ∧ v < 128) (h0 : 0 < xs.length) (k p : Nat) (s : Int) (acc : List Int) (hm : mach xs X k = ⟨p, s, acc⟩) (hl : acc.length = k) (hp : p = xs.length) :
    acc = full128 xs X ∧ sum128 xs X k % 103 = chk128 (full128 xs X) := by
  have he := mach_end xs X hX hr k (by rw [hm]; exact hl) (by rw [hm]; exact hp)
  rw [hm] at he
  have he2 : acc = full128 xs X := he
  refine ⟨he2, ?_⟩
  have hf := full_facts xs X hX hr h0
  unfold sum128 chk128
  rw [← he2] at hf ⊢
  rw [hl] at hf ⊢
  rw [if_neg (by omega)]
/-- What a round does, by the plain machine. -/
theorem mach_take (xs : List Int) (X : Nat → Int) (k p : Nat) (s : Int) (acc : List Int) (hm : mach xs X k = ⟨p, s, acc⟩) (hp : p < xs.length) (hc : cho xs X p s = s) : mach xs X (k + 1) = ⟨p + (if s = 99 then 2 else 1), s, acc ++ [val128 xs p s]⟩ := by
  rw [mach, hm]
  unfold nxt
  rw [if_pos hp, if_pos hc]
theorem mach_turn (xs : List Int) (X : Nat → Int) (k p : Nat) (s c : Int) (acc : List Int) (hm : mach xs X k = ⟨p, s, acc⟩) (hp : p < xs.length) (hc : cho xs X p s = c) (hne : c ≠ s) : mach xs X (k + 1) = ⟨p, c, acc ++ [if s = 0 then start128 c else c]⟩ := by
  rw [mach, hm]
  unfold nxt
  rw [if_pos hp, if_neg (by rw [hc]; exact hne)]
  dsimp only
  rw [hc]
theorem mach_sort (xs : List Int) (X : Nat → Int) (hX : ∀ p, X p = 99 ∨ X p = 100) (hr : ∀ v ∈ xs, 0 ≤ v ∧ v < 128) (k p : Nat) (s : Int) (acc : List Int) (hm : mach xs X k = ⟨p, s, acc⟩) (hl : acc.length = k) :
    p ≤ xs.length ∧ ((k = 0 ∧ p = 0 ∧ s = 0) ∨ ((s = 99 ∨ s = 100 ∨ s = 101) ∧ ((k = 1 ∧ p = 0 ∧ cho xs X p s = s) ∨ (2 ≤ k ∧ 1 ≤ p)))) := by
  have hi := mach_inv xs X hX hr k
  rw [hm] at hi
  refine ⟨hi.le, ?_⟩
  rcases hi.sort with ⟨h1, h2, h3⟩ | ⟨h1, h2⟩
  · refine .inl ⟨?_, h2, h3⟩
    have : acc = [] := h1
    rw [← hl, this]; rfl
  · refine .inr ⟨h1, ?_⟩
    rw [← hl]
    exact h2
end Go.Proofs.YthkddnmomjcdaaaGreat.B
