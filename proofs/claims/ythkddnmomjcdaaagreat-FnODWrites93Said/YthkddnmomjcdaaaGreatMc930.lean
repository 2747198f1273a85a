import Derived.Test.YthkddnmomjcdaaaGreatF0
import Derived.Laws.BitsAllLaws
import Derived.Lib.Strings
import Derived.Lib.SlBytesConst
import Derived.Laws.Runes
import Derived.Test.YthkddnmomjcdaaaGreatGc931
namespace Go.Proofs.YthkddnmomjcdaaaGreat.B
open Go.RowKit Go.Proofs.YthkddnmomjcdaaaGreatW.PrintWords Go.Proofs.YthkddnmomjcdaaaGreatW.PrintLast Go.Proofs.YthkddnmomjcdaaaGreatW.PrintMore
set_option linter.unusedVariables false
set_option linter.unusedSimpArgs false

/-- Block g is just the cells cs of element type t, none frozen. -/
def Blk (w : World) (g : Nat) (t : TypeId) (cs : Array Value) : Prop := w.heap[g]? = some (.cells cs t (0, 0))
theorem Blk.cell {w : World} {g : Nat} {t : TypeId} {cs : Array Value} (h : Blk w g t cs) (i : Nat) : w.cell? ⟨g, i, none⟩ = cs[i]? := blk_cell h i
theorem Blk.frozen {w : World} {g : Nat} {t : TypeId} {cs : Array Value} (h : Blk w g t cs) (i : Nat) : w.frozen? ⟨g, i, none⟩ = false := blk_frozen h i
theorem Blk.lt {w : World} {g : Nat} {t : TypeId} {cs : Array Value} (h : Blk w g t cs) : g < w.heap.size := blk_lt h
theorem Blk.ucell {w : World} {g : Nat} {t : TypeId} {k : IntKind} {xs : List Int} (h : Blk w g t (nums k xs).toArray) (i : Int) (h0 : 0 ≤ i) (h1 : i < xs.length) : w.cell? ⟨g, i.toNat, none⟩ = some (.int k (rd xs i)) := by
  rw [h.cell]
  simp [nums, rd, List.getD, List.getElem?_eq_getElem (show i.toNat < xs.length by omega)]
theorem Blk.uset {w : World} {g : Nat} {t : TypeId} {k : IntKind} {xs : List Int} (h : Blk w g t (nums k xs).toArray) (i : Nat) (v : Int) : Blk (w.setCell ⟨g, i, none⟩ (.int k v)) g t (nums k (xs.set i v)).toArray := by
  have := blk_set h i (.int k v)
  unfold Blk
  rw [this]
  simp [nums, List.map_set]
theorem Blk.far {w : World} {g : Nat} {t : TypeId} {cs : Array Value} (h : Blk w g t cs) {p : Addr} (hp : g ≠ p.block) (u : Value) : Blk (w.setCell p u) g t cs := blk_far h hp u
theorem Blk.alloc {w : World} {g : Nat} {t : TypeId} {cs : Array Value} (h : Blk w g t cs) (o : Obj) : Blk (w.alloc o) g t cs := blk_alloc h o
theorem Blk.below {w w' : World} {g : Nat} {t : TypeId} {cs : Array Value} {B : Nat} (h : Blk w g t cs) (hb : Below B w w') (hg : g < B) : Blk w' g t cs := (hb.block g hg).trans h
theorem Blk.new (w : World) (t : TypeId) (cs : Array Value) : Blk (w.alloc (.cells cs t)) w.heap.size t cs := heap_alloc_new w _

theorem run_make_rowN {P : Program} (t e : TypeId) (i : TypeInfo) (z : Value) (ht : P.underlying t = some (.slice e)) (hi : P.info? e = some i) (hz : i.zero = some z)
    (kl kc : IntKind) (n c : Nat) (hnc : n ≤ c) (hbytes : i.bytes * c ≤ 281474976710656) (h63 : c ≤ 9223372036854775807) (w : World) :
    (Instr.makeSlice t (.int kl (n : Int)) (.int kc (c : Int))).run P w = .ok (.slice (some ⟨w.heap.size, 0, none⟩) n c) (w.alloc (.cells (madeCells z.cells (c * i.size)) e)) := by
  have hb : (i.bytes : Int) * (c : Int) ≤ 281474976710656 := by
    have h : ((i.bytes * c : Nat) : Int) ≤ 281474976710656 := by omega
    rwa [Int.natCast_mul] at h
  have hr := run_make (P := P) w t e i z ht hi hz kl kc n c (by omega) (by omega) hb (by omega)
  simp only [Int.toNat_natCast] at hr
  exact hr
/-- make([]uint32, n) -/
theorem make_u32 (n : Nat) (h : n ≤ 1000000000) (w : World) : (Instr.makeSlice 73 (.int .i64 (n : Int)) (.int .i64 (n : Int))).run Tryz.prog w = .ok (.slice (some ⟨w.heap.size, 0, none⟩) n n) (w.alloc (.cells (nums .u32 (List.replicate n 0)).toArray 78)) := by
  obtain ⟨i, hi, hz, hs, hb⟩ := info_parts F.info78
  have := run_make_rowN (P := Tryz.prog) 73 78 i (.int .u32 0) Tryz.underlying73 hi hz .i64 .i64 n n (Nat.le_refl _) (by rw [hb]; omega) (by omega) w
  have e : madeCells (Value.int .u32 0).cells (n * 1) = (nums .u32 (List.replicate n 0)).toArray := by
    apply Array.toList_inj.1
    rw [Nat.mul_one]
    exact (toList_madeCells_one _ _).trans (by simp [nums])
  rw [this, hs, e]

theorem newBM (w : World) (wd ht rs : Int) (N : Nat) (h1 : 1 ≤ wd) (h2 : 1 ≤ ht) (h3 : wd ≤ 100000000) (hrs : (wd + 31) / 32 = rs) (hn : rs * ht = (N : Int)) (hN : N ≤ 1000000000) :
    Calls Tryz.prog 104 #[.int .i64 wd, .int .i64 ht] w fun e w' => e = .returned (.tuple #[.pointer (some ⟨w.heap.size + 1, 0, none⟩), .nilIface]) ∧
      w' = (w.alloc (.cells (nums .u32 (List.replicate N 0)).toArray 78)).alloc (.cells #[.int .i64 wd, .int .i64 ht, .int .i64 rs, .slice (some ⟨w.heap.size, 0, none⟩) N N] 75) := by
  have hmk := make_u32 N hN
  have a1 : ¬ wd < 1 := by omega
  have a2 : ¬ ht < 1 := by omega
  have a3 : wrap64 (rs * ht) = (N : Int) := by rw [hn]; unfold wrap64; omega
  go_enter Tryz.func104, Tryz.ntmps104
  go_wp2
  go_ret2
  exact ⟨rfl, rfl⟩

/-- make of an array of words for so many bits -/
theorem mkArray (w : World) (n : Int) (N : Nat) (h0 : 0 ≤ n) (h1 : n ≤ 100000000) (hN : (n + 31) / 32 = (N : Int)) :
    Calls Tryz.prog 72 #[.int .i64 n] w fun e w' => e = .returned (.slice (some ⟨w.heap.size, 0, none⟩) N N) ∧ w' = w.alloc (.cells (nums .u32 (List.replicate N 0)).toArray 78) := by
  have hmk := make_u32 N (by omega)
  go_enter Tryz.func72, Tryz.ntmps72
  go_wp2
  go_ret
  exact ⟨rfl, rfl⟩

theorem newBA (w : World) (n : Int) (N : Nat) (h0 : 0 ≤ n) (h1 : n ≤ 100000000) (hN : (n + 31) / 32 = (N : Int)) :
    Calls Tryz.prog 59 #[.int .i64 n] w fun e w' => e = .returned (.pointer (some ⟨w.heap.size + 1, 0, none⟩)) ∧
      w' = (w.alloc (.cells (nums .u32 (List.replicate N 0)).toArray 78)).alloc (.cells #[.slice (some ⟨w.heap.size, 0, none⟩) N N, .int .i64 n] 100) := by
  have Hn := Aside0.mk hN
  clear hN
  go_enter Tryz.func59, Tryz.ntmps59
  go_wp2_with (go_at_call 72; refine (mkArray _ _ N h0 h1 Hn.out).mono ?_; rintro e w' ⟨rfl, rfl⟩)
  go_ret
  exact ⟨rfl, rfl⟩

/-- b.bits[i / 32] = v -/
theorem setBulk (w : World) (g gb : Nat) (n : Int) (xs : List Int) (N : Nat) (i v : Int) (hg : Blk w g 100 #[.slice (some ⟨gb, 0, none⟩) N N, .int .i64 n]) (hb : Blk w gb 78 (nums .u32 xs).toArray) (hN : xs.length = N) (hN2 : N ≤ 1000000000) (h0 : 0 ≤ i) (h1 : i / 32 < (N : Int)) :
    Calls Tryz.prog 61 #[.pointer (some ⟨g, 0, none⟩), .int .i64 i, .int .u32 v] w fun e w' => e = .returned (.tuple #[]) ∧ w' = w.setCell ⟨gb, (i / 32).toNat, none⟩ (.int .u32 v) := by
  have c0 := hg.cell 0
  have c1 : w.cell? ⟨gb, (i / 32).toNat, none⟩ = some (.int .u32 (rd xs (i / 32))) := hb.ucell (i / 32) (by omega) (by omega)
  have c2 := hb.frozen (i / 32).toNat
  have b0 : 0 ≤ i / 32 := by omega
  simp only [List.getElem?_toArray, List.getElem?_cons_zero] at c0
  clear hN
  go_enter Tryz.func61, Tryz.ntmps61
  go_wp2
  go_end0
  exact ⟨rfl, rfl⟩

/-- Just the block gb has turned. -/
structure Turn (w w' : World) (gb : Nat) : Prop where
  os : w'.os = w.os
  tape : w'.tape = w.tape
  output : w'.output = w.output
  size : w'.heap.size = w.heap.size
  block : ∀ k, k ≠ gb → w'.heap[k]? = w.heap[k]?
theorem Turn.refl (w : World) (gb : Nat) : Turn w w gb := ⟨rfl, rfl, rfl, rfl, fun _ _ => rfl⟩
theorem Turn.trans {a b c : World} {gb : Nat} (h : Turn a b gb) (k : Turn b c gb) : Turn a c gb := ⟨k.os.trans h.os, k.tape.trans h.tape, k.output.trans h.output, k.size.trans h.size, fun i hi => (k.block i hi).trans (h.block i hi)⟩
theorem Turn.set (w : World) (gb i : Nat) (u : Value) : Turn w (w.setCell ⟨gb, i, none⟩ u) gb := ⟨rfl, rfl, rfl, by simp [World.setCell], fun k hk => Below.heap_setCell w _ u k hk⟩
theorem Turn.blk {w w' : World} {gb g : Nat} {t : TypeId} {cs : Array Value} (h : Turn w w' gb) (hb : Blk w g t cs) (hne : g ≠ gb) : Blk w' g t cs := (h.block g hne).trans hb
theorem Turn.below {w w' : World} {gb B : Nat} (h : Turn w w' gb) (hB : B ≤ gb) : Below B w w' := ⟨h.os, h.tape, h.output, by rw [h.size]; exact Nat.le_refl _, fun k hk => h.block k (by omega)⟩

/-- The bit x of a row of bits from the word o on is set. -/
def orBit (xs : List Int) (o x : Int) : List Int := xs.set (o + x / 32).toNat (Go.bits .or .u32 (rd xs (o + x / 32)) (2 ^ (x % 32).toNat % 4294967296))
def sregX (xs : List Int) (o left : Int) : Nat → List Int
  | 0 => xs
  | n + 1 => orBit (sregX xs o left n) o (left + n)
def sreg (xs : List Int) (rs left : Int) (n : Nat) (top : Int) : Nat → List Int
  | 0 => xs
  | m + 1 => sregX (sreg xs rs left n top m) ((top + m) * rs) left n
theorem orBit_length (xs : List Int) (o x : Int) : (orBit xs o x).length = xs.length := by simp [orBit]
theorem sregX_length (xs : List Int) (o left : Int) (n : Nat) : (sregX xs o left n).length = xs.length := by
  induction n with
  | zero => rfl
  | succ n ih => rw [sregX, orBit_length, ih]
theorem sreg_length (xs : List Int) (rs left : Int) (n : Nat) (top : Int) (m : Nat) : (sreg xs rs left n top m).length = xs.length := by
  induction m with
  | zero => rfl
  | succ m ih => rw [sreg, sregX_length, ih]
theorem sregX_step (xs : List Int) (o left x : Int) (h : left ≤ x) : sregX xs o left (x + 1 - left).toNat = orBit (sregX xs o left (x - left).toNat) o x := by
  rw [show (x + 1 - left).toNat = (x - left).toNat + 1 by omega, sregX, show left + ((x - left).toNat : Int) = x by omega]
theorem sreg_step (xs : List Int) (rs left : Int) (n : Nat) (top y : Int) (h : top ≤ y) : sreg xs rs left n top (y + 1 - top).toNat = sregX (sreg xs rs left n top (y - top).toNat) (y * rs) left n := by
  rw [show (y + 1 - top).toNat = (y - top).toNat + 1 by omega, sreg, show top + ((y - top).toNat : Int) = y by omega]

set_option maxHeartbeats 1000000 in
theorem setRegion (w : World) (g gb : Nat) (wd ht rs left top n m : Int) (xs : List Int) (N : Nat)
    (hg : Blk w g 75 #[.int .i64 wd, .int .i64 ht, .int .i64 rs, .slice (some ⟨gb, 0, none⟩) N N]) (hb : Blk w gb 78 (nums .u32 xs).toArray) (hl : xs.length = N) (hN : N ≤ 1000000000)
    (hrs : (wd + 31) / 32 = rs) (hn : rs * ht = (N : Int)) (h0 : 0 ≤ left) (h1 : 0 ≤ top) (h2 : 1 ≤ n) (h3 : 1 ≤ m) (h4 : left + n ≤ wd) (h5 : top + m ≤ ht) (h6 : wd ≤ 100000000) (h7 : ht ≤ 100000000) :
    Calls Tryz.prog 106 #[.pointer (some ⟨g, 0, none⟩), .int .i64 left, .int .i64 top, .int .i64 n, .int .i64 m] w fun e w' => e = .returned .nilIface ∧
      Blk w' gb 78 (nums .u32 (sreg xs rs left n.toNat top m.toNat)).toArray ∧ Turn w w' gb := by
  have hne : g ≠ gb := blk_ne hg hb (by decide)
  have c0 : w.cell? ⟨g, 0, none⟩ = some (.int .i64 wd) := hg.cell 0
  have c1 : w.cell? ⟨g, 1, none⟩ = some (.int .i64 ht) := hg.cell 1
  have HG := Aside0.mk hg
  have HB := Aside0.mk hb
  have HL := Aside0.mk hl
  have HN := Aside0.mk hn
  have HR := Aside0.mk hrs
  clear hg hb hl hn hrs
  go_enter Tryz.func106, Tryz.ntmps106
  go_wp2
  go_loopw [13] (fun v wr => ∃ y : Int, top ≤ y ∧ y ≤ top + m ∧ v = .int .i64 y ∧ Aside0 (Blk wr gb 78 (nums .u32 (sreg xs rs left n.toNat top (y - top).toNat)).toArray) ∧ Aside0 (Turn w wr gb)) (fun v _ => (top + m - intOf v).toNat)
  case atStart => exact ⟨top, by omega, by omega, rfl, ⟨by rw [show (top - top).toNat = 0 by omega]; exact HB.out⟩, ⟨Turn.refl _ _⟩⟩
  case round =>
    obtain ⟨y, hy1, hy2, rfl, HY, HT⟩ := hrel
    clear c0 c1
    by_cases hlt : y < top + m
    · have hgr := HT.out.blk HG.out hne
      have c2 : wr.cell? ⟨g, 2, none⟩ = some (.int .i64 rs) := hgr.cell 2
      clear hgr
      obtain ⟨o, ho⟩ : ∃ o, y * rs = o := ⟨_, rfl⟩
      have ho1 : 0 ≤ o ∧ o + rs ≤ N := by
        have hr0 : 0 ≤ rs := by have := HR.out; omega
        have hq := HN.out
        have e1 := Int.mul_le_mul_of_nonneg_right (show y + 1 ≤ ht by omega) hr0
        have e2 : (y + 1) * rs = y * rs + rs := by rw [Int.add_mul, Int.one_mul]
        have e3 : ht * rs = rs * ht := Int.mul_comm _ _
        have e4 := Int.mul_nonneg (show 0 ≤ y by omega) hr0
        omega
      obtain ⟨ho1, ho2⟩ := ho1
      have hr0 : 0 ≤ rs := by have := HR.out; omega
      have how : wrap64 (y * rs) = o := by rw [ho]; unfold wrap64; omega
      have HO := Aside0.mk ho
      clear ho
      obtain ⟨ys, hys⟩ : ∃ ys, sreg xs rs left n.toNat top (y - top).toNat = ys := ⟨_, rfl⟩
      have hyl : ys.length = N := by rw [← hys, sreg_length, HL.out]
      rw [hys] at HY
      have HYS := Aside0.mk hys
      have HYL := Aside0.mk hyl
      clear hys hyl
      go_wp2
      obtain ⟨wo, rfl⟩ : ∃ wo : World, wo = wr := ⟨_, rfl⟩
      clear c2
      go_loopw [15] (fun v wi => ∃ x : Int, left ≤ x ∧ x ≤ left + n ∧ v = .int .i64 x ∧ Aside0 (Blk wi gb 78 (nums .u32 (sregX ys o left (x - left).toNat)).toArray) ∧ Aside0 (Turn wo wi gb)) (fun v _ => (left + n - intOf v).toNat)
      case atStart => exact ⟨left, by omega, by omega, rfl, ⟨by rw [show (left - left).toNat = 0 by omega]; exact HY.out⟩, ⟨Turn.refl _ _⟩⟩
      case round =>
        obtain ⟨x, hx1, hx2, rfl, HX, HU⟩ := hrel
        by_cases hlx : x < left + n
        · have hgr := HU.out.blk (HT.out.blk HG.out hne) hne
          have c3 : wr.cell? ⟨g, 3, none⟩ = some (.slice (some ⟨gb, 0, none⟩) N N) := hgr.cell 3
          clear hgr
          obtain ⟨zs, hzs⟩ : ∃ zs, sregX ys o left (x - left).toNat = zs := ⟨_, rfl⟩
          have hzl : zs.length = N := by rw [← hzs, sregX_length, HYL.out]
          rw [hzs] at HX
          have b0 : 0 ≤ o + x / 32 := by omega
          have b1 : o + x / 32 < (N : Int) := by have := HR.out; omega
          have c4 : wr.cell? ⟨gb, (o + x / 32).toNat, none⟩ = some (.int .u32 (rd zs (o + x / 32))) := HX.out.ucell _ b0 (by omega)
          have c5 := HX.out.frozen (o + x / 32).toNat
          have HZ := Aside0.mk hzs
          clear hzs hzl
          go_wp2
          go_roundw
          case rel => exact ⟨x + 1, by omega, by omega, by go_num, ⟨by rw [sregX_step _ _ _ _ hx1, HZ.out]; exact HX.out.uset _ _⟩, ⟨HU.out.trans (Turn.set _ _ _ _)⟩⟩
          case measure => simp [intOf]; omega
        · have : x = left + n := by omega
          subst this
          go_wp2
          go_roundw
          case rel => exact ⟨y + 1, by omega, by omega, by go_num, ⟨by rw [sreg_step _ _ _ _ _ _ hy1, HYS.out, HO.out]; have := HX.out; rwa [show (left + n - left).toNat = n.toNat by omega] at this⟩, ⟨HT.out.trans HU.out⟩⟩
          case measure => simp [intOf]; omega
    · have : y = top + m := by omega
      subst this
      go_wp2
      go_ret
      refine ⟨rfl, ?_, HT.out⟩
      have := HY.out
      rwa [show (top + m - top).toNat = m.toNat by omega] at this

/-- A row of bits as it is copied, word by word. -/
def cpy (xs ys : List Int) (o : Int) : Nat → List Int
  | 0 => ys
  | n + 1 => (cpy xs ys o n).set n (rd xs (o + n))
theorem cpy_length (xs ys : List Int) (o : Int) (n : Nat) : (cpy xs ys o n).length = ys.length := by
  induction n with
  | zero => rfl
  | succ n ih => rw [cpy, List.length_set, ih]

set_option maxHeartbeats 1000000 in
theorem getRow (w : World) (g gb : Nat) (wd ht rs y : Int) (xs : List Int) (N R : Nat)
    (hg : Blk w g 75 #[.int .i64 wd, .int .i64 ht, .int .i64 rs, .slice (some ⟨gb, 0, none⟩) N N]) (hb : Blk w gb 78 (nums .u32 xs).toArray) (hl : xs.length = N) (hN : N ≤ 1000000000)
    (hrs : (wd + 31) / 32 = rs) (hR : rs = (R : Int)) (hn : rs * ht = (N : Int)) (h1 : 0 ≤ y) (h5 : y < ht) (h0 : 0 ≤ wd) (h6 : wd ≤ 100000000) :
    Calls Tryz.prog 31 #[.pointer (some ⟨g, 0, none⟩), .int .i64 y, .pointer none] w fun e w' => e = .returned (.pointer (some ⟨w.heap.size + 1, 0, none⟩)) ∧
      Blk w' w.heap.size 78 (nums .u32 (cpy xs (List.replicate R 0) (y * rs) R)).toArray ∧ Blk w' (w.heap.size + 1) 100 #[.slice (some ⟨w.heap.size, 0, none⟩) R R, .int .i64 wd] ∧ Below w.heap.size w w' ∧ w'.heap.size = w.heap.size + 2 := by
  have c0 : w.cell? ⟨g, 0, none⟩ = some (.int .i64 wd) := hg.cell 0
  have HG := Aside0.mk hg
  have HB := Aside0.mk hb
  have HL := Aside0.mk hl
  have HN := Aside0.mk hn
  have HR := Aside0.mk hrs
  have HR2 := Aside0.mk hR
  clear hg hb hl hn hrs hR
  go_enter Tryz.func31, Tryz.ntmps31
  go_wp2
  go_quiet (fail)
  go_wp2_with fail
  refine (newBA _ _ R h0 h6 (by rw [HR.out, HR2.out])).mono ?_
  rintro e w1 ⟨rfl, hw1⟩
  have hne := blk_ne HG.out HB.out (by decide)
  have hbw : Below w.heap.size w w1 := by rw [hw1]; exact below_alloc (below_alloc (pw_below_drewN (Below.refl _ _) _) _) _
  have bg := HG.out.below hbw HG.out.lt
  have bb := HB.out.below hbw HB.out.lt
  have b1 : Blk w1 w.heap.size 78 (nums .u32 (List.replicate R 0)).toArray := by rw [hw1]; exact Blk.alloc (Blk.new (w.drewN nq) _ _) _
  have b2 : Blk w1 (w.heap.size + 1) 100 #[.slice (some ⟨w.heap.size, 0, none⟩) R R, .int .i64 wd] := by
    rw [hw1]
    have := Blk.new ((w.drewN nq).alloc (.cells (nums .u32 (List.replicate R 0)).toArray 78)) 100 #[.slice (some ⟨w.heap.size, 0, none⟩) R R, .int .i64 wd]
    simpa using this
  have hsz : w1.heap.size = w.heap.size + 2 := by rw [hw1]; simp
  have c2 : w1.cell? ⟨g, 2, none⟩ = some (.int .i64 rs) := bg.cell 2
  clear hw1 c0
  obtain ⟨o, ho⟩ : ∃ o, y * rs = o := ⟨_, rfl⟩
  have hr0 : 0 ≤ rs := by have := HR.out; omega
  have ho1 : 0 ≤ o ∧ o + rs ≤ N := by
    have hq := HN.out
    have e1 := Int.mul_le_mul_of_nonneg_right (show y + 1 ≤ ht by omega) hr0
    have e2 : (y + 1) * rs = y * rs + rs := by rw [Int.add_mul, Int.one_mul]
    have e3 : ht * rs = rs * ht := Int.mul_comm _ _
    have e4 := Int.mul_nonneg h1 hr0
    omega
  obtain ⟨ho1, ho2⟩ := ho1
  have how : wrap64 (y * rs) = o := by rw [ho]; unfold wrap64; omega
  have BG := Aside0.mk bg
  have BB := Aside0.mk bb
  have B1 := Aside0.mk b1
  have B2 := Aside0.mk b2
  have BW := Aside0.mk hbw
  have SZ := Aside0.mk hsz
  have OO := Aside0.mk ho
  clear bg bb b1 b2 hbw hsz ho
  have hlt : g < w.heap.size := HG.out.lt
  have hlt2 : gb < w.heap.size := HB.out.lt
  go_wp2
  simp only [how]
  clear c2 how
  go_loopw [8] (fun v wr => ∃ n : Nat, n ≤ R ∧ v = .int .i64 n ∧ Aside0 (Blk wr w.heap.size 78 (nums .u32 (cpy xs (List.replicate R 0) o n)).toArray) ∧ Aside0 (Turn w1 wr w.heap.size)) (fun v _ => R - (intOf v).toNat)
  case atStart => exact ⟨0, by omega, rfl, B1, ⟨Turn.refl _ _⟩⟩
  case round =>
    obtain ⟨n, hn, rfl, HX, HU⟩ := hrel
    have hRr : (R : Int) = rs := HR2.out.symm
    have hgr := HU.out.blk BG.out (by omega)
    have hbr := HU.out.blk BB.out (by omega)
    have har := HU.out.blk B2.out (by omega)
    have c2 : wr.cell? ⟨g, 2, none⟩ = some (.int .i64 rs) := hgr.cell 2
    have c3 : wr.cell? ⟨g, 3, none⟩ = some (.slice (some ⟨gb, 0, none⟩) N N) := hgr.cell 3
    clear hgr
    have RR := Aside0.mk hRr
    clear hRr
    by_cases hlx : (n : Int) < rs
    · have b0 : 0 ≤ o + (n : Int) := by omega
      have b1 : o + (n : Int) < (N : Int) := by omega
      have c4 : wr.cell? ⟨gb, (o + (n : Int)).toNat, none⟩ = some (.int .u32 (rd xs (o + n))) := hbr.ucell _ b0 (by have := HL.out; omega)
      have HAR := Aside0.mk har
      clear har hbr
      have hw32 : ((n : Int) * 32 / 32).toNat = n := by omega
      have H32 := Aside0.mk hw32
      clear hw32
      go_wp2_with fail
      refine (setBulk wr (w.heap.size + 1) w.heap.size wd _ R ((n : Int) * 32) _ HAR.out HX.out (by rw [cpy_length, List.length_replicate]) (by have := RR.out; omega) (by omega) (by have := RR.out; omega)).mono ?_
      rintro e w2 ⟨rfl, hw2⟩
      rw [H32.out] at hw2
      subst hw2
      go_wp2
      go_roundw
      case rel => exact ⟨n + 1, by have := RR.out; omega, by go_num, ⟨by rw [cpy]; exact HX.out.uset _ _⟩, ⟨HU.out.trans (Turn.set _ _ _ _)⟩⟩
      case measure => simp [intOf]; have := RR.out; omega
    · have : (n : Int) = rs := by have := RR.out; omega
      clear c3
      go_wp2
      go_ret
      refine ⟨rfl, ?_, HU.out.blk B2.out (by omega), BW.out.trans (HU.out.below (Nat.le_refl _)), HU.out.size.trans SZ.out⟩
      have e : n = R := by have := RR.out; omega
      rw [OO.out, ← e]
      exact e ▸ HX.out

theorem Blk.bcell {w : World} {g : Nat} {t : TypeId} {xs : List Bool} (h : Blk w g t (bools xs).toArray) (i : Int) (h0 : 0 ≤ i) (h1 : i < xs.length) : w.cell? ⟨g, i.toNat, none⟩ = some (.bool (rdOf false xs i)) := by
  rw [h.cell]
  simp [bools, rdOf, List.getD, List.getElem?_eq_getElem (show i.toNat < xs.length by omega)]
theorem Blk.bset {w : World} {g : Nat} {t : TypeId} {xs : List Bool} (h : Blk w g t (bools xs).toArray) (i : Nat) (v : Bool) : Blk (w.setCell ⟨g, i, none⟩ (.bool v)) g t (bools (xs.set i v)).toArray := by
  have := blk_set h i (.bool v)
  unfold Blk
  rw [this]
  simp [bools, List.map_set]
theorem make_bool (n : Nat) (h : n ≤ 1000000000) (w : World) : (Instr.makeSlice 27 (.int .i64 (n : Int)) (.int .i64 (n : Int))).run Tryz.prog w = .ok (.slice (some ⟨w.heap.size, 0, none⟩) n n) (w.alloc (.cells (bools (List.replicate n false)).toArray 4)) := by
  obtain ⟨i, hi, hz, hs, hb⟩ := info_parts F.info4
  have := run_make_rowN (P := Tryz.prog) 27 4 i (.bool false) Tryz.underlying27 hi hz .i64 .i64 n n (Nat.le_refl _) (by rw [hb]; omega) (by omega) w
  have e : madeCells (Value.bool false).cells (n * 1) = (bools (List.replicate n false)).toArray := by
    apply Array.toList_inj.1
    rw [Nat.mul_one]
    exact (toList_madeCells_one _ _).trans (by simp [bools])
  rw [this, hs, e]

/-- The bit x of a row of bits. -/
def bitAt (xs : List Int) (x : Int) : Bool := Go.bits .and .u32 (rd xs (x / 32)) (2 ^ (x % 32).toNat % 4294967296) != 0
theorem baSize (w : World) (g gb : Nat) (n : Int) (N : Nat) (hg : Blk w g 100 #[.slice (some ⟨gb, 0, none⟩) N N, .int .i64 n]) :
    Calls Tryz.prog 57 #[.pointer (some ⟨g, 0, none⟩)] w fun e w' => e = .returned (.int .i64 n) ∧ w = w' := by
  have c1 : w.cell? ⟨g, 1, none⟩ = some (.int .i64 n) := hg.cell 1
  go_enter Tryz.func57, Tryz.ntmps57
  go_wp2
  go_ret
  exact ⟨rfl, rfl⟩
theorem baGet (w : World) (g gb : Nat) (n : Int) (xs : List Int) (N : Nat) (i : Int) (hg : Blk w g 100 #[.slice (some ⟨gb, 0, none⟩) N N, .int .i64 n]) (hb : Blk w gb 78 (nums .u32 xs).toArray) (hN : xs.length = N) (hN2 : N ≤ 1000000000) (h0 : 0 ≤ i) (h1 : i / 32 < (N : Int)) :
    Calls Tryz.prog 58 #[.pointer (some ⟨g, 0, none⟩), .int .i64 i] w fun e w' => e = .returned (.bool (bitAt xs i)) ∧ w = w' := by
  have c0 : w.cell? ⟨g, 0, none⟩ = some (.slice (some ⟨gb, 0, none⟩) N N) := hg.cell 0
  have c1 : w.cell? ⟨gb, (i / 32).toNat, none⟩ = some (.int .u32 (rd xs (i / 32))) := hb.ucell (i / 32) (by omega) (by omega)
  have b0 : 0 ≤ i / 32 := by omega
  clear hN
  go_enter Tryz.func58, Tryz.ntmps58
  go_wp2
  go_ret
  exact ⟨rfl, rfl⟩

def unbits (xs : List Int) (n : Nat) : List Bool := (List.range n).map fun (i : Nat) => bitAt xs i
theorem unbits_set (xs : List Int) (n k : Nat) (hk : k < n) : (unbits xs k ++ List.replicate (n - k) false).set k (bitAt xs k) = unbits xs (k + 1) ++ List.replicate (n - (k + 1)) false := by
  have hl : (unbits xs k).length = k := by simp [unbits]
  rw [List.set_append_right _ _ (by omega), hl, Nat.sub_self, show n - k = (n - (k + 1)) + 1 by omega, List.replicate_succ, List.set_cons_zero]
  simp [unbits, List.range_succ]

set_option maxHeartbeats 1000000 in
theorem toBools (w : World) (g gb : Nat) (n : Nat) (xs : List Int) (N : Nat) (hg : Blk w g 100 #[.slice (some ⟨gb, 0, none⟩) N N, .int .i64 n]) (hb : Blk w gb 78 (nums .u32 xs).toArray) (hN : xs.length = N) (hN2 : N ≤ 1000000000) (h1 : n ≤ 100000000) (h2 : ((n : Int) + 31) / 32 = N) :
    Calls Tryz.prog 30 #[.pointer (some ⟨g, 0, none⟩)] w fun e w' => e = .returned (.slice (some ⟨w.heap.size, 0, none⟩) n n) ∧ Blk w' w.heap.size 4 (bools (unbits xs n)).toArray ∧ Below w.heap.size w w' := by
  have hmk := make_bool n (by omega)
  have HG := Aside0.mk hg
  have HB := Aside0.mk hb
  have HN := Aside0.mk hN
  have HH2 := Aside0.mk h2
  clear hg hb hN h2
  have hglt : g < w.heap.size := HG.out.lt
  have hblt : gb < w.heap.size := HB.out.lt
  go_enter Tryz.func30, Tryz.ntmps30
  go_wp2_with fail
  refine (baSize w g gb n N HG.out).mono ?_
  rintro e w' ⟨rfl, rfl⟩
  go_wp2
  clear hmk
  obtain ⟨w1, hw1⟩ : ∃ w1, w.alloc (.cells (bools (List.replicate n false)).toArray 4) = w1 := ⟨_, rfl⟩
  have hbw : Below w.heap.size w w1 := by rw [← hw1]; exact below_alloc (Below.refl _ _) _
  have BM := Aside0.mk (show Blk w1 w.heap.size 4 (bools (List.replicate n false)).toArray by rw [← hw1]; exact Blk.new _ _ _)
  have HBW := Aside0.mk hbw
  clear hbw
  simp only [hw1]
  clear hw1
  go_loopw [10] (fun v wr => ∃ k : Nat, k ≤ n ∧ v = .int .i64 k ∧ Aside0 (Blk wr w.heap.size 4 (bools (unbits xs k ++ List.replicate (n - k) false)).toArray) ∧ Aside0 (Turn w1 wr w.heap.size)) (fun v _ => n - (intOf v).toNat)
  case atStart => exact ⟨0, by omega, rfl, by simpa [unbits] using BM, ⟨Turn.refl _ _⟩⟩
  case round =>
    obtain ⟨k, hk, rfl, HX, HU⟩ := hrel
    by_cases hlx : k < n
    · have hgr := HU.out.blk (HG.out.below HBW.out hglt) (by omega)
      have hbr := HU.out.blk (HB.out.below HBW.out hblt) (by omega)
      have hxl : (unbits xs k ++ List.replicate (n - k) false).length = n := by simp [unbits]; omega
      have c5 := HX.out.frozen k
      have c4 := HX.out.bcell k (by omega) (by omega)
      simp only [Int.toNat_natCast] at c4
      have HGR := Aside0.mk hgr
      have HBR := Aside0.mk hbr
      clear hgr hbr hxl
      go_wp2_with fail
      refine (baGet wr g gb n xs N k HGR.out HBR.out HN.out hN2 (by omega) (by have := HH2.out; omega)).mono ?_
      rintro e w' ⟨rfl, rfl⟩
      go_wp2
      go_roundw
      case rel => exact ⟨k + 1, by omega, by go_num, ⟨by rw [← unbits_set _ _ _ hlx]; exact HX.out.bset _ _⟩, ⟨HU.out.trans (Turn.set _ _ _ _)⟩⟩
      case measure => simp [intOf]; omega
    · have : k = n := by omega
      subst this
      go_wp2
      go_ret
      refine ⟨rfl, ?_, HBW.out.trans (HU.out.below (Nat.le_refl _))⟩
      simpa using HX.out

theorem maxI (w : World) (x y : Int) : Calls Tryz.prog 103 #[.int .i64 x, .int .i64 y] w fun e w' => e = .returned (.int .i64 (if y < x then x else y)) ∧ w = w' := by
  by_cases h : y < x
  · rw [if_pos h]
    have h' : decide (y < x) = true := decide_eq_true h
    go_enter Tryz.func103, Tryz.ntmps103
    go_wp2
    go_ret
    exact ⟨rfl, rfl⟩
  · rw [if_neg h]
    have h' : decide (y < x) = false := decide_eq_false h
    go_enter Tryz.func103, Tryz.ntmps103
    go_wp2
    go_ret
    exact ⟨rfl, rfl⟩

/-- The words of a row of modules, each so many pixels wide. -/
def paint (code : List Bool) (left many : Int) (xs : List Int) : Nat → List Int
  | 0 => xs
  | n + 1 => if rdOf false code n then sreg (paint code left many xs n) (((xs.length : Int))) (left + n * many) many.toNat 0 1 else paint code left many xs n
theorem paint_length (code : List Bool) (left many : Int) (xs : List Int) (n : Nat) : (paint code left many xs n).length = xs.length := by
  induction n with
  | zero => rfl
  | succ n ih =>
    rw [paint]
    split
    · rw [sreg_length, ih]
    · exact ih

set_option maxHeartbeats 2000000 in
theorem render (w : World) (A : Option Addr) (c : Nat) (code : List Bool) (wd mg full out many left rs : Int) (R : Nat)
    (hc : Kd.C Kd.bool w A code.length code) (h0 : 0 < (code.length : Int) + mg) (hm0 : 0 ≤ mg) (hm1 : mg ≤ 1000) (hw0 : 0 ≤ wd) (hw1 : wd ≤ 100000) (hlen : code.length ≤ 100000)
    (hfull : (code.length : Int) + mg = full) (hout : (if full < wd then wd else full) = out) (hmany : out / full = many) (hleft : (out - code.length * many) / 2 = left) (hrs : (out + 31) / 32 = rs) (hR : rs = (R : Int)) :
    Calls Tryz.prog 99 #[.slice A code.length c, .int .i64 wd, .int .i64 1, .int .i64 mg] w fun e w' => e = .returned (.tuple #[.pointer (some ⟨w.heap.size + 1, 0, none⟩), .nilIface]) ∧
      Blk w' w.heap.size 78 (nums .u32 (paint code left many (List.replicate R 0) code.length)).toArray ∧
      Blk w' (w.heap.size + 1) 75 #[.int .i64 out, .int .i64 1, .int .i64 rs, .slice (some ⟨w.heap.size, 0, none⟩) R R] ∧ Below w.heap.size w w' := by
  have e1 : code.length * many ≤ out := by
    rw [← hmany]
    have := Int.mul_ediv_self_le (x := out) (k := full) (by omega)
    have h3 := Int.ediv_nonneg (show 0 ≤ out by split at hout <;> omega) (show 0 ≤ full by omega)
    have h4 := Int.mul_le_mul_of_nonneg_right (show (code.length : Int) ≤ full by omega) h3
    omega
  have ho : full ≤ out ∧ out ≤ 200000 := by split at hout <;> omega
  have hmy : 1 ≤ many := by
    rw [← hmany]
    exact (Int.le_ediv_iff_mul_le (by omega)).2 (by omega)
  have hnn : 0 ≤ (code.length : Int) * many := Int.mul_nonneg (by omega) (by omega)
  have hle : many ≤ 200000 := by
    rw [← hmany]
    exact Int.le_trans (Int.ediv_le_self _ (by omega)) (by omega)
  obtain ⟨lm, hlm⟩ : ∃ lm, (code.length : Int) * many = lm := ⟨_, rfl⟩
  rw [hlm] at e1 hnn hleft
  have q1 : wrap64 ((code.length : Int) * many) = lm := by rw [hlm]; unfold wrap64; omega
  have HC := Aside0.mk hc
  have HL := Aside0.mk hlm
  clear hc hlm
  have HO := Aside0.mk hout
  clear hout
  have hlft : 0 ≤ left ∧ left + lm ≤ out := by omega
  obtain ⟨hl1, hl2⟩ := hlft
  have HF := Aside0.mk hleft
  have HM := Aside0.mk hrs
  have HR := Aside0.mk hR
  clear hR
  go_enter Tryz.func99, Tryz.ntmps99
  go_wp2_with fail
  refine (maxI w wd full).mono ?_
  rintro e w' ⟨rfl, rfl⟩
  rw [HO.out]
  go_wp2_with fail
  refine (maxI w 1 1).mono ?_
  rintro e w' ⟨rfl, rfl⟩
  simp only [show (if (1 : Int) < 1 then (1 : Int) else 1) = 1 from rfl]
  go_wp2_with fail
  refine (newBM w out 1 rs R (by omega) (by omega) (by omega) HM.out (by rw [HR.out]; omega) (by have := HR.out; have := HM.out; omega)).mono ?_
  rintro e w1 ⟨rfl, hw1⟩
  have hbw : Below w.heap.size w w1 := by rw [hw1]; exact below_alloc (below_alloc (Below.refl _ _) _) _
  have b1 : Blk w1 w.heap.size 78 (nums .u32 (List.replicate R 0)).toArray := by rw [hw1]; exact Blk.alloc (Blk.new w _ _) _
  have b2 : Blk w1 (w.heap.size + 1) 75 #[.int .i64 out, .int .i64 1, .int .i64 rs, .slice (some ⟨w.heap.size, 0, none⟩) R R] := by
    rw [hw1]
    have := Blk.new (w.alloc (.cells (nums .u32 (List.replicate R 0)).toArray 78)) 75 #[.int .i64 out, .int .i64 1, .int .i64 rs, .slice (some ⟨w.heap.size, 0, none⟩) R R]
    simpa using this
  have HBW := Aside0.mk hbw
  have B1 := Aside0.mk b1
  have B2 := Aside0.mk b2
  clear hw1 hbw b1 b2
  go_wp2
  go_loopw [18, 19] (fun v u wr => ∃ k : Nat, k ≤ code.length ∧ v = .int .i64 k ∧ u = .int .i64 (left + k * many) ∧ Aside0 (Blk wr w.heap.size 78 (nums .u32 (paint code left many (List.replicate R 0) k)).toArray) ∧ Aside0 (Turn w1 wr w.heap.size)) (fun v _ _ => code.length - (intOf v).toNat)
  case atStart => exact ⟨0, by omega, rfl, by simp, B1, ⟨Turn.refl _ _⟩⟩
  case round =>
    obtain ⟨k, hk, rfl, rfl, HX, HU⟩ := hrel
    by_cases hlx : k < code.length
    · have hlx' : (k : Int) < code.length := by omega
      obtain ⟨ad, rfl, hcell⟩ := Kd.at_bool HC.out (k : Int) (by omega) hlx'
      replace hcell := ((HBW.out.trans (HU.out.below (Nat.le_refl _))).cell (World.block_lt_of_cell? w _ hcell)).trans hcell
      simp only [Int.toNat_natCast] at hcell
      obtain ⟨p, hp⟩ : ∃ p, (k : Int) * many = p := ⟨_, rfl⟩
      have hp1 : 0 ≤ p := by rw [← hp]; exact Int.mul_nonneg (by omega) (by omega)
      have hp2 : p + many ≤ lm := by
        have h1 := Int.mul_le_mul_of_nonneg_right (show (k : Int) + 1 ≤ code.length by omega) (show 0 ≤ many by omega)
        have h2 : ((k : Int) + 1) * many = k * many + many := by rw [Int.add_mul, Int.one_mul]
        have := HL.out
        omega
      have hp3 : left + ((k + 1 : Nat) : Int) * many = left + p + many := by
        have h2 : ((k : Int) + 1) * many = k * many + many := by rw [Int.add_mul, Int.one_mul]
        push_cast
        omega
      have HP := Aside0.mk hp3
      have HPP := Aside0.mk hp
      rw [hp]
      clear hp hp3
      by_cases hb : rdOf false code k = true
      · rw [hb] at hcell
        have HHB := Aside0.mk hb
        clear hb
        have hsz := B1.out.lt
        go_wp2_with fail
        refine (setRegion wr (w.heap.size + 1) w.heap.size out 1 rs (left + p) 0 many 1 _ R (HU.out.blk B2.out (by omega)) HX.out (by rw [paint_length, List.length_replicate]) (by have := HR.out; have := HM.out; omega) HM.out (by rw [HR.out]; omega) (by omega) (by omega) (by omega) (by omega) (by omega) (by omega) (by omega) (by omega)).mono ?_
        rintro e w2 ⟨rfl, hx2, hu2⟩
        have HX2 := Aside0.mk hx2
        have HU2 := Aside0.mk hu2
        clear hx2 hu2
        go_wp2
        go_roundw
        case rel => exact ⟨k + 1, by omega, by go_num, by rw [HP.out], ⟨by rw [paint, if_pos HHB.out, HPP.out, List.length_replicate, ← HR.out]; exact HX2.out⟩, ⟨HU.out.trans HU2.out⟩⟩
        case measure => simp [intOf]; omega
      · have hb' : rdOf false code k = false := by simpa using hb
        rw [hb'] at hcell
        have HHB := Aside0.mk hb'
        clear hb hb'
        go_wp2
        go_roundw
        case rel => exact ⟨k + 1, by omega, by go_num, by rw [HP.out], ⟨by rw [paint, if_neg (by rw [HHB.out]; simp)]; exact HX.out⟩, HU⟩
        case measure => simp [intOf]; omega
    · have : k = code.length := by omega
      subst this
      go_wp2
      go_ret2
      refine ⟨rfl, HX.out, HU.out.blk B2.out (by omega), HBW.out.trans (HU.out.below (Nat.le_refl _))⟩

/-! ### The map of one entry, and what is asked of it -/
theorem chk_key (em : Bool) (W : World) (x : Value) : (Instr.checkKey em 10000 50 x).run Tryz.prog W = .ok () W := by
  rw [show (10000 : Nat) = 9999 + 1 from rfl, Instr.checkKey]
  simp [run_underlying Tryz.underlying50]
theorem getObj_map (W : World) (r : Nat) (es : Array MapEntry) (c : Nat) (h : W.heap[r]? = some (.map es c)) : (getObj r).run Tryz.prog W = .ok (.map es c) W := by simp [getObj, Sem.run, h]
theorem setObj_map (W : World) (r : Nat) (es : Array MapEntry) (c : Nat) (o : Obj) (h : W.heap[r]? = some (.map es c)) : (setObj r o).run Tryz.prog W = .ok () { W with heap := W.heap.setIfInBounds r o } := by simp [setObj, Sem.run, h]
theorem push_set (h : Array Obj) (x o : Obj) : (h.push x).setIfInBounds h.size o = h.push o := by
  apply Array.toList_inj.1
  simp
theorem run_ins (W : World) (v : Value) : (Instr.mapUpdate 51 (.map (some W.heap.size)) (.int .i64 5) v).run Tryz.prog (W.alloc (.map #[] 0)) = .ok () (W.alloc (.map #[⟨.int .i64 5, v, 0⟩] 1)) := by
  unfold Instr.mapUpdate
  have h : (W.alloc (.map #[] 0)).heap[W.heap.size]? = some (.map #[] 0) := heap_alloc_new W _
  simp only [Sem.run_bind, run_underlying Tryz.underlying51, Result.andThen_ok, getObj_map _ _ _ _ h, chk_key]
  simp only [Instr.findKey, Sem.run_bind, run_underlying Tryz.underlying50, Result.andThen_ok, Instr.findNow, Sem.run_pure]
  rw [setObj_map _ _ _ _ _ h]
  have e : (W.alloc (.map #[] 0)).heap.setIfInBounds W.heap.size (.map #[⟨.int .i64 5, v, 0⟩] 1) = W.heap.push (.map #[⟨.int .i64 5, v, 0⟩] 1) := push_set _ _ _
  exact congrArg (Result.ok ()) (congrArg (fun hp => ({ W with heap := hp } : World)) e)
theorem run_lk (W : World) (gm : Nat) (v : Value) (h : W.heap[gm]? = some (.map #[⟨.int .i64 5, v, 0⟩] 1)) : (Instr.lookup 51 (.map (some gm)) (.int .i64 5) true).run Tryz.prog W = .ok (.tuple #[v, .bool true]) W := by
  unfold Instr.lookup
  simp only [Sem.run_bind, run_underlying Tryz.underlying51, Result.andThen_ok, getObj_map _ _ _ _ h, Sem.run_pure, chk_key]
  simp [Instr.findKey, run_underlying Tryz.underlying50, Instr.findNow, Instr.sameNow]
theorem run_ta (v : Int) (W : World) : (Instr.typeAssert (.iface 3 (.int .i64 v)) 20 3 true).run Tryz.prog W = .ok (.tuple #[.int .i64 v, .bool true]) W := by kernel_rfl

theorem methE (g : Nat) (W : World) : Sem.run Tryz.prog (method 315 85 (.pointer (some ⟨g, 0, none⟩)) "Encode") W = .ok (94, .pointer (some ⟨g, 0, none⟩)) W := by kernel_rfl
theorem newOdw (w : World) (t : TypeId) (x : Value) :
    Calls Tryz.prog 70 #[.iface t x] w fun e w' => e = .returned (.pointer (some ⟨w.heap.size, 0, none⟩)) ∧ w' = w.alloc (.cells #[.iface t x, .int .i64 10] 106) := by
  go_enter Tryz.func70, Tryz.ntmps70
  go_wp2
  go_ret
  exact ⟨rfl, rfl⟩
theorem alloc_set (w : World) (t : TypeId) (cs : Array Value) (i : Nat) (v : Value) : (w.alloc (.cells cs t)).setCell ⟨w.heap.size, i, none⟩ v = w.alloc (.cells (cs.setIfInBounds i v) t) := by
  have e : ((w.alloc (.cells cs t)).setCell ⟨w.heap.size, i, none⟩ v).heap = w.heap.push (.cells (cs.setIfInBounds i v) t) := by
    apply Array.ext_getElem?
    intro k
    by_cases hk : k = w.heap.size
    · subst hk
      have h := blk_set (heap_alloc_new w (.cells cs t)) i v
      simpa using h
    · rw [Below.heap_setCell _ _ _ _ hk]
      by_cases hl : k < w.heap.size
      · rw [Below.heap_alloc _ _ _ hl, Array.getElem?_push]
        simp [hk]
      · have h1 : (w.alloc (.cells cs t)).heap[k]? = none := Array.getElem?_eq_none (by simp; omega)
        rw [h1]
        exact (Array.getElem?_eq_none (by simp; omega)).symm
  exact congrArg (fun hp => ({ w with heap := hp } : World)) e
theorem newUpc (w : World) (t : TypeId) (x : Value) :
    Calls Tryz.prog 71 #[.iface t x] w fun e w' => e = .returned (.pointer (some ⟨w.heap.size, 0, none⟩)) ∧ w' = w.alloc (.cells #[.iface t x, .int .i64 9] 106) := by
  go_enter Tryz.func71, Tryz.ntmps71
  go_wp2_with (go_at_call 70; refine (newOdw _ _ _).mono ?_; rintro e w' ⟨rfl, rfl⟩)
  go_ret
  exact ⟨rfl, by first | rfl | exact alloc_set _ _ _ _ _⟩
theorem newExc (w : World) (s : ByteArray) (v : Value) :
    Calls Tryz.prog 100 #[.string s, v] w fun e w' => e = .returned (.agg #[.string s, .nilIface]) ∧ Below w.heap.size w w' := by
  go_enter Tryz.func100, Tryz.ntmps100
  go_wp2
  exact bodyPost_ret (v := .agg #[.string s, .nilIface]) (by simp [results, Tryz.results100, go_sem]) rfl ⟨rfl, (Below.refl _ _).alloc (Nat.le_refl _) _⟩
theorem newWExc (w : World) (v : Value) :
    Calls Tryz.prog 96 #[v] w fun e w' => ∃ x, e = .returned (.iface 141 x) ∧ Below w.heap.size w w' := by
  go_enter Tryz.func96, Tryz.ntmps96
  go_wp2_with (go_at_call 100; refine (newExc _ _ _).mono ?_; rintro e w' ⟨rfl, hb⟩)
  go_ret
  exact ⟨_, rfl, hb⟩

theorem C_nums {w : World} {g : Nat} {t : TypeId} {k : IntKind} {xs : List Int} (h : Blk w g t (nums k xs).toArray) (hl : xs.length ≤ 9223372036854775807) : Kd.C (Kd.int k) w (some ⟨g, 0, none⟩) xs.length xs := by
  refine Kd.C_of_reads (enc := Value.int k) (d := (0 : Int)) (h1 := fun _ => rfl) ⟨rfl, hl, fun _ => ⟨_, rfl, fun j hj => ?_⟩⟩
  have := h.ucell (j : Int) (by omega) (by omega)
  rw [add_plain]
  simpa [rd] using this
theorem C_bools {w : World} {g : Nat} {t : TypeId} {xs : List Bool} (h : Blk w g t (bools xs).toArray) (hl : xs.length ≤ 9223372036854775807) : Kd.C Kd.bool w (some ⟨g, 0, none⟩) xs.length xs := by
  refine Kd.C_of_reads (enc := Value.bool) (d := false) (h1 := fun _ => rfl) ⟨rfl, hl, fun _ => ⟨_, rfl, fun j hj => ?_⟩⟩
  have := h.bcell (j : Int) (by omega) (by omega)
  rw [add_plain]
  simpa [rdOf] using this
theorem contains1 (w : World) (g : Nat) (n : Int) (h : Blk w g 49 (nums .i64 [n]).toArray) :
    Calls Tryz.prog 97 #[.slice (some ⟨g, 0, none⟩) 1 1, .int .i64 n] w fun e w' => e = .returned (.bool true) ∧ Below w.heap.size w w' := by
  refine (F.gozxing_BarcodeFormats_Contains.calls 3 (some ⟨g, 0, none⟩) 1 [n] n true w (C_nums h (by simp)) (by simp) ?_).mono ?_
  · have e : rd [n] 0 = n := rfl
    simp [F.gozxing_BarcodeFormats_Contains.f, F.gozxing_BarcodeFormats_Contains.l0, e]
  · rintro e w' ⟨rfl, h⟩
    exact ⟨rfl, h.below⟩

/-! ### Bits of words -/
def W32 (xs : List Int) : Prop := ∀ v ∈ xs, 0 ≤ v ∧ v < 4294967296
theorem rd_mem (xs : List Int) (i : Int) (h : i.toNat < xs.length) : rd xs i ∈ xs := by
  rw [rd, List.getD_eq_getElem?_getD, List.getElem?_eq_getElem h]
  exact List.getElem_mem h
theorem pow_lt (k : Int) (h0 : 0 ≤ k) (h : k < 32) : 2 ^ k.toNat < 4294967296 := by
  have : 2 ^ k.toNat < 2 ^ 32 := Nat.pow_lt_pow_right (by omega) (by omega)
  simpa using this
theorem shl_eq (k : Int) (h0 : 0 ≤ k) (h : k < 32) : (2 : Int) ^ k.toNat % 4294967296 = ((2 ^ k.toNat : Nat) : Int) := by
  have := pow_lt k h0 h
  rw [show (2 : Int) ^ k.toNat = ((2 ^ k.toNat : Nat) : Int) by simp]
  generalize 2 ^ k.toNat = q at *
  omega
theorem and_pow (a k : Nat) : (((a &&& 2 ^ k : Nat) : Int) != 0) = a.testBit k := by
  cases h : a.testBit k with
  | true =>
    rw [bne_iff_ne]
    intro e
    have e0 : a &&& 2 ^ k = 0 := by omega
    have h1 : (a &&& 2 ^ k).testBit k = true := by rw [Nat.testBit_and, h, Nat.testBit_two_pow]; simp
    rw [e0] at h1
    simp at h1
  | false =>
    have e0 : a &&& 2 ^ k = 0 := by
      apply Nat.eq_of_testBit_eq
      intro i
      rw [Nat.testBit_and, Nat.testBit_two_pow, Nat.zero_testBit]
      by_cases e : k = i
      · subst e; simp [h]
      · simp [e]
    rw [e0]
    rfl
theorem bitAt_eq (xs : List Int) (hw : W32 xs) (x : Int) (h0 : 0 ≤ x) (h1 : x / 32 < xs.length) : bitAt xs x = (rd xs (x / 32)).toNat.testBit (x % 32).toNat := by
  have hm := hw _ (rd_mem xs (x / 32) (by omega))
  have hp := pow_lt (x % 32) (by omega) (by omega)
  rw [bitAt, shl_eq _ (by omega) (by omega), u32_and _ _ hm.1 hm.2 (Int.natCast_nonneg _) (Int.ofNat_lt.2 hp), Int.toNat_natCast, and_pow]
theorem orBit_w (xs : List Int) (hw : W32 xs) (o x : Int) (h0 : 0 ≤ o) (h1 : 0 ≤ x) (h2 : o + x / 32 < xs.length) : W32 (orBit xs o x) := by
  intro v hv
  rcases List.mem_or_eq_of_mem_set hv with h | h
  · exact hw v h
  · subst h
    have hm := hw _ (rd_mem xs (o + x / 32) (by omega))
    have hp := pow_lt (x % 32) (by omega) (by omega)
    rw [shl_eq _ (by omega) (by omega), u32_or _ _ hm.1 hm.2 (Int.natCast_nonneg _) (Int.ofNat_lt.2 hp), Int.toNat_natCast]
    generalize 2 ^ (x % 32).toNat = q at *
    have : (rd xs (o + x / 32)).toNat ||| q < 2 ^ 32 := Nat.or_lt_two_pow (by omega) (by omega)
    omega
theorem rd_set (xs : List Int) (i j : Int) (v : Int) (h0 : 0 ≤ i) (h1 : 0 ≤ j) (h2 : i < xs.length) : rd (xs.set i.toNat v) j = if j = i then v else rd xs j := by
  rw [rd, rd, List.getD_eq_getElem?_getD, List.getD_eq_getElem?_getD, List.getElem?_set]
  by_cases e : j = i
  · subst e
    simp [show j.toNat < xs.length by omega]
  · rw [if_neg e, if_neg (by omega)]
theorem bitAt_orBit (xs : List Int) (hw : W32 xs) (o x y : Int) (h0 : 0 ≤ o) (h1 : 0 ≤ x) (h2 : o + x / 32 < xs.length) (h3 : 0 ≤ y) (h4 : y / 32 < xs.length) :
    bitAt (orBit xs o x) y = (bitAt xs y || decide (y = 32 * o + x)) := by
  rw [bitAt_eq _ (orBit_w xs hw o x h0 h1 h2) y h3 (by rw [orBit_length]; exact h4), bitAt_eq xs hw y h3 h4, orBit, rd_set _ _ _ _ (by omega) (by omega) h2]
  have hm := hw _ (rd_mem xs (o + x / 32) (by omega))
  have hp := pow_lt (x % 32) (by omega) (by omega)
  by_cases e : y / 32 = o + x / 32
  · rw [if_pos e, shl_eq _ (by omega) (by omega), u32_or _ _ hm.1 hm.2 (Int.natCast_nonneg _) (Int.ofNat_lt.2 hp), Int.toNat_natCast, Int.toNat_natCast, Nat.testBit_or, Nat.testBit_two_pow, e]
    congr 1
    rw [decide_eq_decide]
    omega
  · rw [if_neg e]
    have : ¬ y = 32 * o + x := by omega
    simp [this]
theorem sregX_w (xs : List Int) (hw : W32 xs) (o left : Int) (h0 : 0 ≤ o) (h1 : 0 ≤ left) : ∀ n : Nat, (n = 0 ∨ o + (left + n - 1) / 32 < xs.length) → W32 (sregX xs o left n)
  | 0, _ => hw
  | n + 1, h => by
    have ih := sregX_w xs hw o left h0 h1 n (by omega)
    exact orBit_w _ ih o (left + n) h0 (by omega) (by rw [sregX_length]; omega)
theorem bitAt_sregX (xs : List Int) (hw : W32 xs) (o left y : Int) (h0 : 0 ≤ o) (h1 : 0 ≤ left) (h3 : 0 ≤ y) (h4 : y / 32 < xs.length) : ∀ n : Nat, (n = 0 ∨ o + (left + n - 1) / 32 < xs.length) →
    bitAt (sregX xs o left n) y = (bitAt xs y || decide (32 * o + left ≤ y ∧ y < 32 * o + left + n))
  | 0, _ => by
    have : decide (32 * o + left ≤ y ∧ y < 32 * o + left + ((0 : Nat) : Int)) = false := decide_eq_false (by omega)
    rw [sregX, this, Bool.or_false]
  | n + 1, h => by
    rw [sregX, bitAt_orBit _ (sregX_w xs hw o left h0 h1 n (by omega)) _ _ _ h0 (by omega) (by rw [sregX_length]; omega) h3 (by rw [sregX_length]; omega), bitAt_sregX xs hw o left y h0 h1 h3 h4 n (by omega), Bool.or_assoc]
    congr 1
    rw [← Bool.decide_or, decide_eq_decide]
    omega

/-- What a painted row has at y. -/
def rowAt (code : List Bool) (left many : Int) (y : Int) : Bool := if left ≤ y ∧ y < left + code.length * many then rdOf false code ((y - left) / many) else false
theorem paint_bits (code : List Bool) (left many : Int) (xs : List Int) (hw : W32 xs) (h0 : 0 ≤ left) (h1 : 1 ≤ many) (R : Nat) (hR : xs.length = R) (hz : ∀ y : Int, 0 ≤ y → y / 32 < R → bitAt xs y = false) :
    ∀ n : Nat, (n = 0 ∨ (left + n * many - 1) / 32 < R) → W32 (paint code left many xs n) ∧ ∀ y : Int, 0 ≤ y → y / 32 < R →
      bitAt (paint code left many xs n) y = (if left ≤ y ∧ y < left + n * many then rdOf false code ((y - left) / many) else false)
  | 0, _ => ⟨hw, fun y hy hy2 => by rw [paint, hz y hy hy2, if_neg (by rw [show ((0 : Nat) : Int) * many = 0 by simp]; omega)]⟩
  | n + 1, h => by
    have e1 : ((n + 1 : Nat) : Int) * many = n * many + many := by push_cast; rw [Int.add_mul, Int.one_mul]
    rw [e1] at h
    have hnn : 0 ≤ (n : Int) * many := Int.mul_nonneg (by omega) (by omega)
    obtain ⟨ihw, ih⟩ := paint_bits code left many xs hw h0 h1 R hR hz n (by omega)
    have hl := paint_length code left many xs n
    obtain ⟨p, hp⟩ : ∃ p, (n : Int) * many = p := ⟨_, rfl⟩
    rw [hp] at hnn h ih e1
    have hdiv : ∀ y : Int, left + p ≤ y → y < left + p + many → (y - left) / many = n := by
      intro y ha hb
      have h2 : y - left = (y - left - p) + n * many := by omega
      rw [h2, Int.add_mul_ediv_right _ _ (by omega), Int.ediv_eq_zero_of_lt (by omega) (by omega)]
      omega
    rw [paint]
    split
    · rename_i hc
      have hs : sreg (paint code left many xs n) (xs.length : Int) (left + (n : Int) * many) many.toNat 0 1 = sregX (paint code left many xs n) 0 (left + p) many.toNat := by
        simp only [sreg, hp]
        simp
      rw [hs]
      refine ⟨sregX_w _ ihw 0 (left + p) (by omega) (by omega) _ (by rw [hl]; omega), fun y hy hy2 => ?_⟩
      rw [bitAt_sregX _ ihw 0 (left + p) y (by omega) (by omega) hy (by rw [hl]; omega) _ (by rw [hl]; omega), ih y hy hy2, e1]
      by_cases ha : left + p ≤ y ∧ y < left + p + many
      · rw [if_neg (by omega), if_pos (by omega), hdiv y ha.1 ha.2, hc]
        simp; omega
      · have hd : decide (32 * (0 : Int) + (left + p) ≤ y ∧ y < 32 * (0 : Int) + (left + p) + (many.toNat : Int)) = false := decide_eq_false (by omega)
        rw [hd, Bool.or_false]
        by_cases hb : left ≤ y ∧ y < left + p
        · rw [if_pos hb, if_pos (by omega)]
        · rw [if_neg hb, if_neg (by omega)]
    · rename_i hc
      refine ⟨ihw, fun y hy hy2 => ?_⟩
      rw [ih y hy hy2, e1]
      by_cases ha : left + p ≤ y ∧ y < left + p + many
      · rw [if_neg (by omega), if_pos (by omega), hdiv y ha.1 ha.2]
        simpa using hc
      · by_cases hb : left ≤ y ∧ y < left + p
        · rw [if_pos hb, if_pos (by omega)]
        · rw [if_neg hb, if_neg (by omega)]

theorem cpy_eq (xs ys : List Int) : ∀ n : Nat, n ≤ ys.length → n ≤ xs.length → cpy xs ys 0 n = xs.take n ++ ys.drop n
  | 0, _, _ => by simp [cpy]
  | n + 1, h1, h2 => by
    rw [cpy, cpy_eq xs ys n (by omega) (by omega)]
    have hl : (xs.take n).length = n := by simp; omega
    have e : rd xs (0 + (n : Int)) = xs[n] := by simp [rd, List.getElem?_eq_getElem (show n < xs.length by omega)]
    rw [List.set_append_right _ _ (by omega), hl, Nat.sub_self, List.drop_eq_getElem_cons (show n < ys.length by omega), List.set_cons_zero, e, List.take_succ_eq_append_getElem (show n < xs.length by omega), List.append_assoc]
    rfl

def rowList (code : List Bool) (left many : Int) (n : Nat) : List Bool := (List.range n).map fun (i : Nat) => rowAt code left many i
theorem row_eq (code : List Bool) (left many : Int) (R OUT : Nat) (h0 : 0 ≤ left) (h1 : 1 ≤ many) (h2 : left + code.length * many ≤ OUT) (hR : ((OUT : Int) + 31) / 32 = R) :
    unbits (cpy (paint code left many (List.replicate R 0) code.length) (List.replicate R 0) 0 R) OUT = rowList code left many OUT := by
  have hl := paint_length code left many (List.replicate R 0) code.length
  rw [List.length_replicate] at hl
  rw [cpy_eq _ _ R (by simp) (by omega), List.take_of_length_le (by omega), List.drop_of_length_le (by simp), List.append_nil]
  have hw0 : W32 (List.replicate R 0) := fun v hv => by rw [List.eq_of_mem_replicate hv]; omega
  have hz : ∀ y : Int, 0 ≤ y → y / 32 < R → bitAt (List.replicate R 0) y = false := fun y hy hy2 => by
    rw [bitAt_eq _ hw0 y hy (by simpa using hy2)]
    have hm := rd_mem (List.replicate R 0) (y / 32) (by simp; omega)
    rw [List.eq_of_mem_replicate hm]
    simp
  obtain ⟨_, hb⟩ := paint_bits code left many (List.replicate R 0) hw0 h0 h1 R (by simp) hz code.length (by omega)
  unfold unbits rowList
  refine List.map_congr_left fun i hi => ?_
  rw [List.mem_range] at hi
  rw [hb i (by omega) (by omega)]
  rfl

/-! ### The reference's row -/
/-- So many pixels of a row are painted. -/
def RowInv (code : List Bool) (left many : Int) (OUT : Nat) (xs : List Bool) (n : Int) : Prop :=
  xs.length = OUT ∧ ∀ y : Int, 0 ≤ y → y < OUT → rdOf false xs y = (if left ≤ y ∧ y < left + n then rdOf false code ((y - left) / many) else false)
theorem rdOf_set {α : Type} (d : α) (xs : List α) (i j : Int) (v : α) (h0 : 0 ≤ i) (h1 : 0 ≤ j) (h2 : i < xs.length) : rdOf d (xs.set i.toNat v) j = if j = i then v else rdOf d xs j := by
  rw [rdOf, rdOf, List.getD_eq_getElem?_getD, List.getD_eq_getElem?_getD, List.getElem?_set]
  by_cases e : j = i
  · subst e
    simp [show j.toNat < xs.length by omega]
  · rw [if_neg e, if_neg (by omega)]
theorem rowInv_step (code : List Bool) (left many : Int) (OUT : Nat) (xs : List Bool) (n : Int) (h : RowInv code left many OUT xs n) (h0 : 0 ≤ left) (hn : 0 ≤ n) (hl : left + n < OUT) :
    RowInv code left many OUT (xs.set (left + n).toNat (rdOf false code (n / many))) (n + 1) := by
  refine ⟨by rw [List.length_set]; exact h.1, fun y hy hy2 => ?_⟩
  rw [rdOf_set false xs (left + n) y _ (by omega) hy (by rw [h.1]; omega)]
  by_cases e : y = left + n
  · rw [if_pos e, if_pos (by omega), e, show left + n - left = n by omega]
  · rw [if_neg e, h.2 y hy hy2]
    by_cases e2 : left ≤ y ∧ y < left + n
    · rw [if_pos e2, if_pos (by omega)]
    · rw [if_neg e2, if_neg (by omega)]
theorem rowInv_list (code : List Bool) (left many : Int) (OUT : Nat) (xs : List Bool) (h : RowInv code left many OUT xs (code.length * many)) : xs = rowList code left many OUT := by
  apply List.ext_getElem?
  intro i
  by_cases hi : i < OUT
  · have h1 := h.2 i (by omega) (by omega)
    rw [List.getElem?_eq_getElem (by rw [h.1]; exact hi), rowList, List.getElem?_map, List.getElem?_range hi]
    have h2 : rdOf false xs (i : Int) = xs[i]'(by rw [h.1]; exact hi) := by simp [rdOf, List.getElem?_eq_getElem (show i < xs.length by rw [h.1]; exact hi)]
    rw [← h2, h1]
    rfl
  · rw [List.getElem?_eq_none (by rw [h.1]; omega), List.getElem?_eq_none (by simp [rowList]; omega)]

theorem odRow_run (code : List Bool) (left many : Int) (OUT : Nat) (h0 : 0 ≤ left) (h1 : 1 ≤ many) (h2 : left + code.length * many ≤ OUT) (hO : OUT ≤ 1000000) (hm : many ≤ 1000000) (hc : code.length ≤ 1000000) :
    ∀ (d i : Nat) (xs : List Bool), (code.length : Int) - i = d → RowInv code left many OUT xs (i * many) → Ev (fun k => F.spec_ODRow.l0 k code xs many left i) (rowList code left many OUT) := by
  intro d
  induction d with
  | zero =>
    intro i xs hd hx
    refine Ev.step (f := fun _ => some xs) (fun k => ?_) ?_
    · rw [F.spec_ODRow.l0, if_neg (by omega)]
    · have : (i : Int) = code.length := by omega
      rw [this] at hx
      rw [← rowInv_list code left many OUT xs hx]
      exact Ev.now xs
  | succ d ih =>
    intro i xs hd hx
    have e1 : ((i + 1 : Nat) : Int) * many = i * many + many := by push_cast; rw [Int.add_mul, Int.one_mul]
    have hle : (i : Int) * many + many ≤ code.length * many := by
      rw [← e1]; exact Int.mul_le_mul_of_nonneg_right (by omega) (by omega)
    have hnn : 0 ≤ (i : Int) * many := Int.mul_nonneg (by omega) (by omega)
    refine Ev.step (f := fun k => F.spec_ODRow.l1 k code xs many left i 0) (fun k => ?_) ?_
    · rw [F.spec_ODRow.l0, if_pos (by omega)]
    · suffices H : ∀ (q : Nat) (k : Int) (zs : List Bool), 0 ≤ k → many - k = q → RowInv code left many OUT zs (i * many + k) → Ev (fun f => F.spec_ODRow.l1 f code zs many left i k) (rowList code left many OUT) from
        H many.toNat 0 xs (by omega) (by omega) (by simpa using hx)
      intro q
      induction q with
      | zero =>
        intro k zs hk hq hz
        refine Ev.step (f := fun f => F.spec_ODRow.l0 f code zs many left ((i + 1 : Nat) : Int)) (fun f => ?_) ?_
        · rw [F.spec_ODRow.l1, if_neg (by omega), show wrap64 ((i : Int) + 1) = ((i + 1 : Nat) : Int) by unfold wrap64; omega]
        · exact ih (i + 1) zs (by omega) (by rw [e1]; have : k = many := by omega
                                             rwa [this] at hz)
      | succ q ihq =>
        intro k zs hk hq hz
        generalize hp : (i : Int) * many = p at *
        have hdiv : (p + k) / many = i := by
          rw [← hp, Int.add_comm, Int.add_mul_ediv_right _ _ (by omega), Int.ediv_eq_zero_of_lt hk (by omega)]
          omega
        refine Ev.step (f := fun f => F.spec_ODRow.l1 f code (zs.set (left + (p + k)).toNat (rdOf false code ((p + k) / many))) many left i (k + 1)) (fun f => ?_) ?_
        · have w1 : wrap64 ((i : Int) * many) = p := by rw [hp]; unfold wrap64; omega
          have w2 : wrap64 (left + p) = left + p := by unfold wrap64; omega
          have w3 : wrap64 (left + p + k) = left + (p + k) := by unfold wrap64; omega
          rw [F.spec_ODRow.l1, if_pos (by omega), if_pos (by omega), if_pos (by omega), w1, w2, w3, if_pos (by omega), if_pos (by rw [hz.1]; omega), show wrap64 (k + 1) = k + 1 by unfold wrap64; omega, hdiv]
        · exact ihq (k + 1) _ (by omega) (by omega) (by
            have := rowInv_step code left many OUT zs (p + k) hz h0 (by omega) (by omega)
            rwa [show p + k + 1 = p + (k + 1) by omega] at this)

theorem odRow (code : List Bool) (wd mg full out many left : Int) (OUT : Nat) (q0 : 0 < (code.length : Int) + mg) (hm0 : 0 ≤ mg) (hm1 : mg ≤ 1000) (hw0 : 0 ≤ wd) (hw1 : wd ≤ 100000) (hlc : code.length ≤ 100000)
    (hfull : (code.length : Int) + mg = full) (hout : (if full < wd then wd else full) = out) (hmany : out / full = many) (hleft : (out - code.length * many) / 2 = left) (hOUT : out = (OUT : Int)) :
    Ev (fun k => F.spec_ODRow.f k code wd mg) (rowList code left many OUT) := by
  have hb : 0 < full ∧ full ≤ out ∧ out ≤ 200000 := by split at hout <;> omega
  obtain ⟨hb0, hb1, hb2⟩ := hb
  have hmx : mx wd full = out := by unfold mx; rw [← hout]; split <;> split <;> omega
  have hmy : 1 ≤ many := by rw [← hmany]; exact (Int.le_ediv_iff_mul_le (by omega)).2 (by omega)
  have hle : many ≤ 200000 := by rw [← hmany]; exact Int.le_trans (Int.ediv_le_self _ (by omega)) (by omega)
  have hlm : (code.length : Int) * many ≤ out := by
    rw [← hmany]
    have h1 := Int.mul_ediv_self_le (x := out) (k := full) (by omega)
    have h4 := Int.mul_le_mul_of_nonneg_right (show (code.length : Int) ≤ full by omega) (show 0 ≤ out / full by omega)
    omega
  have hnn : 0 ≤ (code.length : Int) * many := Int.mul_nonneg (by omega) (by omega)
  generalize hp : (code.length : Int) * many = p at *
  have hmain := odRow_run code left many OUT (by omega) hmy (by omega) (by omega) (by omega) (by omega) code.length 0 (List.replicate OUT false) (by omega) ⟨by simp, fun y hy hy2 => by
    rw [if_neg (by rw [show ((0 : Nat) : Int) * many = 0 by simp]; omega), rdOf, List.getD_eq_getElem?_getD, List.getElem?_replicate]
    split <;> rfl⟩
  refine Ev.congr (fun k => ?_) hmain
  have w1 : wrap64 ((code.length : Int) + mg) = full := by rw [hfull]; unfold wrap64; omega
  have t1 : Int.tdiv out full = many := by rw [Int.tdiv_eq_ediv_of_nonneg (by omega)]; exact hmany
  have w2 : wrap64 many = many := by unfold wrap64; omega
  have w3 : wrap64 ((code.length : Int) * many) = p := by rw [hp]; unfold wrap64; omega
  have w4 : wrap64 (out - p) = out - p := by unfold wrap64; omega
  have t2 : Int.tdiv (out - p) 2 = left := by rw [Int.tdiv_eq_ediv_of_nonneg (by omega)]; exact hleft
  have w5 : wrap64 left = left := by unfold wrap64; omega
  unfold F.spec_ODRow.f
  rw [w1, hmx, if_pos (by omega), if_pos (by omega), if_neg (by omega), t1, w2, w3, w4, t2, w5]
  rw [show out.toNat = OUT by omega]
  rfl

theorem sameBits (xs : List Bool) (hl : xs.length ≤ 1000000) : Ev (fun k => F.spec_BISameBits.f k xs xs) true := by
  have H : ∀ (d i : Nat), (xs.length : Int) - i = d → Ev (fun k => F.spec_BISameBits.l0 k xs xs i) true := by
    intro d
    induction d with
    | zero =>
      intro i hd
      refine Ev.step (f := fun _ => some true) (fun k => ?_) (Ev.now true)
      rw [F.spec_BISameBits.l0, if_neg (by omega)]
    | succ d ih =>
      intro i hd
      refine Ev.step (fun k => ?_) (ih (i + 1) (by omega))
      rw [F.spec_BISameBits.l0, if_pos (by omega), if_pos (by omega), if_pos (by omega), if_neg (by simp), show wrap64 ((i : Int) + 1) = ((i + 1 : Nat) : Int) by unfold wrap64; omega]
  refine Ev.congr (fun k => ?_) (H xs.length 0 (by omega))
  unfold F.spec_BISameBits.f
  rw [if_pos rfl]
  rfl

/-! ### Texts of some signs -/
def some_ (signs : ByteArray) (l : List Int) (most : Nat) : List UInt8 := (l.take most).map fun v => signs.data.toList.getD (v % (signs.size : Int)).toNat 0
theorem ba_append (a b : ByteArray) : (a ++ b).data.toList = a.data.toList ++ b.data.toList := by simp [ByteArray.data_append]
theorem odSome_run (signs : ByteArray) (l : List Int) (most : Nat) (h0 : 0 < signs.size) (h1 : signs.size ≤ 1000) (hm : most ≤ 100000) (hl : ∀ v ∈ l, 0 ≤ v ∧ v ≤ 255) :
    ∀ (d i : Nat) (x : ByteArray), i + d = min l.length most → x.data.toList = some_ signs l i → Ev (fun k => F.spec_ODSome.l0 k signs l most x i) ⟨(some_ signs l most).toArray⟩ := by
  have hfin : ∀ (i : Nat) (x : ByteArray), i = min l.length most → x.data.toList = some_ signs l i → x = ⟨(some_ signs l most).toArray⟩ := by
    intro i x hi hx
    have e : some_ signs l i = some_ signs l most := by
      unfold some_
      congr 1
      rw [hi]
      rcases Nat.le_total l.length most with h | h
      · rw [Nat.min_eq_left h, List.take_of_length_le (Nat.le_refl _), List.take_of_length_le h]
      · rw [Nat.min_eq_right h]
    rw [e] at hx
    rw [← hx]
  intro d
  induction d with
  | zero =>
    intro i x hi hx
    rw [← hfin i x hi hx]
    refine Ev.step (f := fun _ => some x) (fun k => ?_) (Ev.now x)
    rw [F.spec_ODSome.l0]
    by_cases hc : (i : Int) < l.length
    · rw [if_pos hc, if_neg (by omega)]
    · rw [if_neg hc]
  | succ d ih =>
    intro i x hi hx
    have hil : i < l.length := by omega
    have him : i < most := by omega
    have hv := hl _ (rd_mem l (i : Int) (by simpa using hil))
    have hrd : rd l (i : Int) = l[i] := by simp [rd, List.getElem?_eq_getElem hil]
    have hw : wrap64 (rd l (i : Int)) = rd l i := by unfold wrap64; omega
    have ht : Int.tmod (rd l (i : Int)) (signs.size : Int) = rd l (i : Int) % (signs.size : Int) := Int.tmod_eq_emod_of_nonneg hv.1
    have hb0 : 0 ≤ rd l (i : Int) % (signs.size : Int) := Int.emod_nonneg _ (by omega)
    have hb1 : rd l (i : Int) % (signs.size : Int) < signs.size := Int.emod_lt_of_pos _ (by omega)
    obtain ⟨q, hq⟩ : ∃ q : Nat, rd l (i : Int) % (signs.size : Int) = q := ⟨(rd l (i : Int) % (signs.size : Int)).toNat, by omega⟩
    have hxs : x.size = i := by rw [← data_length, hx]; simp [some_]; omega
    have hex : (signs.extract q (q + 1)).data.toList = [signs.data.toList.getD q 0] := by
      have hql : q < signs.data.toList.length := by rw [data_length]; omega
      rw [Lib.extract_data, show q + 1 - q = 1 by omega, List.drop_eq_getElem_cons hql, List.getD_eq_getElem?_getD, List.getElem?_eq_getElem hql]
      rfl
    have hes : (signs.extract q (q + 1)).size = 1 := by rw [← data_length, hex]; rfl
    have hx2 : (x ++ signs.extract q (q + 1)).data.toList = some_ signs l (i + 1) := by
      rw [ba_append, hex, hx]
      unfold some_
      rw [List.take_succ_eq_append_getElem hil, List.map_append, List.map_singleton, ← hrd, hq, Int.toNat_natCast]
    refine Ev.step (fun k => ?_) (ih (i + 1) _ (by omega) hx2)
    rw [F.spec_ODSome.l0, if_pos (by omega), if_pos (by omega), if_pos (by omega), if_neg (by omega), hw, ht, hq, if_pos (by omega), show wrap64 ((q : Int) + 1) = ((q + 1 : Nat) : Int) by unfold wrap64; omega, if_pos (by omega), if_pos (by omega), Int.toNat_natCast, Int.toNat_natCast, hes, hxs, if_pos (by omega), show wrap64 ((i : Int) + 1) = ((i + 1 : Nat) : Int) by unfold wrap64; omega]

theorem odSome (w : World) (signs : ByteArray) (A : Option Addr) (c : Nat) (l : List Int) (most : Nat) (h0 : 0 < signs.size) (h1 : signs.size ≤ 1000) (hm : most ≤ 100000) (hl : ∀ v ∈ l, 0 ≤ v ∧ v ≤ 255)
    (hC : Kd.C (Kd.int .u8) w A l.length l) (hc : l.length ≤ c) :
    Calls Tryz.prog 25 #[.string signs, .slice A l.length c, .int .i64 (most : Int)] w fun e w' => e = .returned (.string ⟨(some_ signs l most).toArray⟩) ∧ Below w.heap.size w w' := by
  obtain ⟨k, hk⟩ := (odSome_run signs l most h0 h1 hm hl (min l.length most) 0 ⟨#[]⟩ (by omega) rfl).rounds
  refine (F.spec_ODSome.calls k signs A c l most _ w hC hc hk).mono ?_
  rintro e w' ⟨rfl, h⟩
  exact ⟨rfl, h.below⟩

def tenSigns : ByteArray := ⟨#[48, 49, 50, 51, 52, 53, 54, 55, 56, 57]⟩
def digs (l : List Int) : List Nat := let n := (min l.length 80) / 2 * 2; (l.take n).map fun v => (v % 10).toNat
theorem digs_len (l : List Int) : (digs l).length = 2 * (min l.length 80 / 2) := by simp [digs]; omega
def DigPost (l : List Int) (least : Int) (t : ByteArray) : Prop := if ((digs l).length : Int) < least then t = ⟨#[]⟩ else t.data.toList = (digs l).map (fun d => UInt8.ofNat (48 + d))
/-- The text of digits, or none if there are fewer than two. -/
theorem odDigits (w : World) (A : Option Addr) (c : Nat) (l : List Int) (least : Int) (hl : ∀ v ∈ l, 0 ≤ v ∧ v ≤ 255) (hC : Kd.C (Kd.int .u8) w A l.length l) (hc : l.length ≤ c) (h2 : least = 2 ∨ least = 6) :
    Calls Tryz.prog 22 #[.slice A l.length c, .int .i64 least] w fun e w' => ∃ t : ByteArray, e = .returned (.string t) ∧ Below w.heap.size w w' ∧
      DigPost l least t := by
  obtain ⟨r, hr⟩ : ∃ r : ByteArray, (⟨(some_ tenSigns l 80).toArray⟩ : ByteArray) = r := ⟨_, rfl⟩
  have hrd : r.data.toList = some_ tenSigns l 80 := by rw [← hr]
  have hrs : r.size = min l.length 80 := by rw [← data_length, hrd]; simp [some_]; omega
  obtain ⟨n, hn⟩ : ∃ n, min l.length 80 = n := ⟨_, rfl⟩
  rw [hn] at hrs
  have hn80 : n ≤ 80 := by omega
  have hes : (r.extract 0 (n / 2 * 2)).size = n / 2 * 2 := by
    rw [← data_length, Lib.extract_data, List.drop_zero, List.length_take, data_length, hrs]; omega
  have hdl := digs_len l
  rw [hn] at hdl
  have hed : (r.extract 0 (n / 2 * 2)).data.toList = (digs l).map (fun d => UInt8.ofNat (48 + d)) := by
    rw [Lib.extract_data, List.drop_zero, Nat.sub_zero, hrd]
    unfold some_ digs
    rw [← List.map_take, List.take_take, hn, show min (n / 2 * 2) 80 = n / 2 * 2 by omega, List.map_map]
    refine List.map_congr_left fun v hv => ?_
    have hv2 := hl v (List.mem_of_mem_take hv)
    have : ∀ q : Fin 10, tenSigns.data.toList.getD (q : Nat) 0 = UInt8.ofNat (48 + (q : Nat)) := by decide +kernel
    exact this ⟨(v % 10).toNat, by omega⟩
  have HES := Aside0.mk hes
  have HED := Aside0.mk hed
  have HDL := Aside0.mk hdl
  have HC := Aside0.mk hC
  have HR := Aside0.mk hr
  have HL := Aside0.mk hl
  have hrsI : (r.size : Int) = n := by omega
  have heI : ((r.extract 0 (n / 2 * 2)).size : Int) = (n : Int) / 2 * 2 := by omega
  have hds : ((digs l).length : Int) = (n : Int) / 2 * 2 := by omega
  have HDS := Aside0.mk hds
  clear hes hed hdl hC hr hrs hn hrd hl hds
  have hb1 : 0 ≤ (n : Int) / 2 * 2 ∧ (n : Int) / 2 * 2 ≤ n := by omega
  obtain ⟨hb1, hb2⟩ := hb1
  by_cases hlt : (n : Int) / 2 * 2 < least
  · have hdd : decide ((n : Int) / 2 * 2 < least) = true := decide_eq_true hlt
    have hd2 : decide (((min (n / 2 * 2) r.size : Nat) : Int) < least) = true := decide_eq_true (by omega)
    clear hlt
    go_enter Tryz.func22, Tryz.ntmps22
    go_wp2_with fail
    refine (odSome w tenSigns A c l 80 (by decide) (by decide) (by omega) HL.out HC.out hc).mono ?_
    rintro e w1 ⟨rfl, hb⟩
    rw [HR.out]
    have HB := Aside0.mk hb
    clear hb
    go_wp2
    go_ret
    exact ⟨_, rfl, HB.out, by unfold DigPost; rw [HDS.out, if_pos (of_decide_eq_true hdd)]⟩
  · have hdd : decide ((n : Int) / 2 * 2 < least) = false := decide_eq_false hlt
    have hd2 : decide (((min (n / 2 * 2) r.size : Nat) : Int) < least) = false := decide_eq_false (by omega)
    clear hlt
    go_enter Tryz.func22, Tryz.ntmps22
    go_wp2_with fail
    refine (odSome w tenSigns A c l 80 (by decide) (by decide) (by omega) HL.out HC.out hc).mono ?_
    rintro e w1 ⟨rfl, hb⟩
    rw [HR.out]
    have HB := Aside0.mk hb
    clear hb
    go_wp2
    go_ret
    exact ⟨_, rfl, HB.out, by unfold DigPost; rw [HDS.out, if_neg (of_decide_eq_false hdd)]; exact HED.out⟩

theorem loop_eq (bs : ByteArray) (i : Nat) (r : List UInt8) : ByteArray.toList.loop bs i r = r.reverse ++ bs.data.toList.drop i := by
  fun_induction ByteArray.toList.loop bs i r with
  | case1 i r h ih =>
    have hl : i < bs.data.toList.length := by rw [Array.length_toList]; exact h
    have hg : bs.get! i = bs.data.toList[i] := by
      show bs.data[i]! = _
      rw [getElem!_pos bs.data i (by simpa using hl)]
      simp
    rw [ih, List.drop_eq_getElem_cons hl, hg]
    simp
  | case2 i r h =>
    have hl : bs.data.toList.length ≤ i := by rw [Array.length_toList]; exact Nat.le_of_not_lt h
    rw [List.drop_of_length_le hl]
    simp
theorem ba_toList (t : ByteArray) : t.toList = t.data.toList := by
  have := loop_eq t 0 []
  simpa [ByteArray.toList] using this

def rFull (code : List Bool) (mg : Int) : Int := code.length + mg
def rOut (code : List Bool) (wd mg : Int) : Int := if rFull code mg < wd then wd else rFull code mg
def rMany (code : List Bool) (wd mg : Int) : Int := rOut code wd mg / rFull code mg
def rLeft (code : List Bool) (wd mg : Int) : Int := (rOut code wd mg - code.length * rMany code wd mg) / 2
/-- The row of a code: its modules, as wide as go in, in the middle. -/
def rowOf (code : List Bool) (wd mg : Int) : List Bool := rowList code (rLeft code wd mg) (rMany code wd mg) (rOut code wd mg).toNat
theorem rowOf_length (code : List Bool) (wd mg : Int) : (rowOf code wd mg).length = (rOut code wd mg).toNat := by simp [rowOf, rowList]
theorem rOut_ge (code : List Bool) (wd mg : Int) (q0 : 0 < (code.length : Int) + mg) (hm1 : mg ≤ 1000) (hw1 : wd ≤ 100000) (hlc : code.length ≤ 100000) : 0 < rOut code wd mg ∧ rOut code wd mg ≤ 200000 := by
  unfold rOut rFull; split <;> omega
theorem odRowOf (code : List Bool) (wd mg : Int) (q0 : 0 < (code.length : Int) + mg) (hm0 : 0 ≤ mg) (hm1 : mg ≤ 1000) (hw0 : 0 ≤ wd) (hw1 : wd ≤ 100000) (hlc : code.length ≤ 100000) :
    Ev (fun k => F.spec_ODRow.f k code wd mg) (rowOf code wd mg) :=
  odRow code wd mg (rFull code mg) (rOut code wd mg) (rMany code wd mg) (rLeft code wd mg) (rOut code wd mg).toNat q0 hm0 hm1 hw0 hw1 hlc rfl rfl rfl rfl (by have := rOut_ge code wd mg q0 hm1 hw1 hlc; omega)
theorem row_eqOf (code : List Bool) (wd mg : Int) (q0 : 0 < (code.length : Int) + mg) (hm0 : 0 ≤ mg) (hm1 : mg ≤ 1000) (hw1 : wd ≤ 100000) (hlc : code.length ≤ 100000) (R : Nat) (hR : (rOut code wd mg + 31) / 32 = (R : Int)) :
    unbits (cpy (paint code (rLeft code wd mg) (rMany code wd mg) (List.replicate R 0) code.length) (List.replicate R 0) 0 R) (rOut code wd mg).toNat = rowOf code wd mg := by
  have ho := rOut_ge code wd mg q0 hm1 hw1 hlc
  have hf : rFull code mg ≤ rOut code wd mg := by unfold rOut; split <;> omega
  have hf0 : 0 < rFull code mg := by unfold rFull; omega
  have hm : 1 ≤ rMany code wd mg := by unfold rMany; exact (Int.le_ediv_iff_mul_le (by omega)).2 (by omega)
  have hlm : (code.length : Int) * rMany code wd mg ≤ rOut code wd mg := by
    unfold rMany
    have h1 := Int.mul_ediv_self_le (x := rOut code wd mg) (k := rFull code mg) (by omega)
    have h4 := Int.mul_le_mul_of_nonneg_right (show (code.length : Int) ≤ rFull code mg by unfold rFull; omega) (show 0 ≤ rOut code wd mg / rFull code mg by exact Int.ediv_nonneg (by omega) (by omega))
    omega
  have hnn : 0 ≤ (code.length : Int) * rMany code wd mg := Int.mul_nonneg (by omega) (by omega)
  exact row_eq code _ _ R _ (by unfold rLeft; omega) hm (by unfold rLeft; omega) (by rw [← hR]; omega)

/-- The last step of a law that writes a row: the reference's row is the same. -/
theorem rowSame (w : World) (b : Nat) (code : List Bool) (wd mg : Int) (A : Option Addr) (c : Nat) (q0 : 0 < (code.length : Int) + mg) (hm1 : mg ≤ 1000) (hw1 : wd ≤ 100000) (hlc : code.length ≤ 100000)
    (hb : Blk w b 4 (bools (rowOf code wd mg)).toArray) (hC : Kd.C Kd.bool w A (rowOf code wd mg).length (rowOf code wd mg)) (hc : (rowOf code wd mg).length ≤ c) (N : Nat) (hN : (rowOf code wd mg).length = N) :
    Calls Tryz.prog 16 #[.slice (some ⟨b, 0, none⟩) N N, .slice A N c] w fun e w' => e = .returned (.bool true) ∧ Below w.heap.size w w' := by
  have hl := rowOf_length code wd mg
  have ho := rOut_ge code wd mg q0 hm1 hw1 hlc
  obtain ⟨k, hk⟩ := (sameBits (rowOf code wd mg) (by omega)).rounds
  subst hN
  refine (F.spec_BISameBits.calls k _ _ _ A c _ true w (C_bools hb (by omega)) (Nat.le_refl _) hC hc hk).mono ?_
  rintro e w' ⟨rfl, h⟩
  exact ⟨rfl, h.below⟩
theorem rowSpec (w : World) (code : List Bool) (wd mg : Int) (A : Option Addr) (c : Nat) (q0 : 0 < (code.length : Int) + mg) (hm0 : 0 ≤ mg) (hm1 : mg ≤ 1000) (hw0 : 0 ≤ wd) (hw1 : wd ≤ 100000) (hlc : code.length ≤ 100000)
    (n : Nat) (hn : code.length = n) (hC : Kd.C Kd.bool w A n code) (hc : n ≤ c) :
    Calls Tryz.prog 17 #[.slice A n c, .int .i64 wd, .int .i64 mg] w fun e w' => ∃ A' c', e = .returned (.slice A' (rowOf code wd mg).length c') ∧ (rowOf code wd mg).length ≤ c' ∧ Kd.C Kd.bool w' A' (rowOf code wd mg).length (rowOf code wd mg) ∧ Below w.heap.size w w' := by
  obtain ⟨k, hk⟩ := (odRowOf code wd mg q0 hm0 hm1 hw0 hw1 hlc).rounds
  subst hn
  refine (F.spec_ODRow.calls k A c code wd mg _ w hC hc hk).mono ?_
  rintro e w' ⟨v, rfl, hr, hb⟩
  obtain ⟨A', c', rfl, h1, h2⟩ := Kd.R_reads hr
  exact ⟨A', c', rfl, h1, h2, hb⟩
/-- The width and the margin. -/
theorem odWidths (w : World) (a b : Int) (ha : 0 ≤ a ∧ a ≤ 65535) (hb : 0 ≤ b ∧ b ≤ 255) :
    Calls Tryz.prog 14 #[.int .u16 a, .int .u8 b] w fun e w' => e = .returned (.tuple #[.int .i64 (a % 3000), .int .i64 (20 + b % 40)]) ∧ Below w.heap.size w w' := by
  refine (F.laws_odWidths.calls a b (a % 3000) (20 + b % 40) w ?_).mono ?_
  · unfold F.laws_odWidths.f
    have e1 : wrap64 a = a := by unfold wrap64; omega
    have e2 : wrap64 b = b := by unfold wrap64; omega
    rw [e1, e2, Int.tmod_eq_emod_of_nonneg ha.1, Int.tmod_eq_emod_of_nonneg hb.1]
    congr 2
    unfold wrap64; omega
  · rintro e w' ⟨rfl, h⟩
    exact ⟨rfl, h.below⟩

theorem wf_u8 {n : Int} (h : (Lit.int .u8 n).wf = true) : 0 ≤ n ∧ n ≤ 255 := by
  simp [Lit.wf, IntKind.min, IntKind.max, IntKind.bits, IntKind.signed] at h
  omega
theorem wf_u16 {n : Int} (h : (Lit.int .u16 n).wf = true) : 0 ≤ n ∧ n ≤ 65535 := by
  simp [Lit.wf, IntKind.min, IntKind.max, IntKind.bits, IntKind.signed] at h
  omega
theorem wf_bytes {l : List Int} (h : ∀ n ∈ l, (Lit.int .u8 n).wf = true) : ∀ v ∈ l, 0 ≤ v ∧ v ≤ 255 := fun v hv => wf_u8 (h v hv)

theorem fmts_c93 (w : World) :
    Calls Tryz.prog 148 #[.agg #[]] w fun e w' => e = .returned (.slice (some ⟨w.heap.size + 1, 0, none⟩) 1 1) ∧ w' = (w.alloc (.cells #[] 90)).alloc (.cells (nums .i64 [3]).toArray 49) := by
  go_enter Tryz.func148, Tryz.ntmps148
  go_wp2
  go_ret
  exact ⟨rfl, rfl⟩
theorem new_c93 (w : World) : Calls Tryz.prog 50 #[] w fun e w' => e = .returned (.iface 85 (.pointer (some ⟨w.heap.size, 0, none⟩))) ∧ w' = w.alloc (.cells #[.iface 90 (.agg #[]), .int .i64 10] 106) := by
  go_enter Tryz.func50, Tryz.ntmps50
  go_wp2_with (go_at_call 70; refine (newOdw _ _ _).mono ?_; rintro e w' ⟨rfl, rfl⟩)
  go_ret
  exact ⟨rfl, rfl⟩
theorem writer_c93 (w : World) : Calls Tryz.prog 29 #[.int .i64 3] w fun e w' => e = .returned (.iface 85 (.pointer (some ⟨w.heap.size, 0, none⟩))) ∧ w' = w.alloc (.cells #[.iface 90 (.agg #[]), .int .i64 10] 106) := by
  go_enter Tryz.func29, Tryz.ntmps29
  go_wp2_with (go_at_call 50; refine (new_c93 _).mono ?_; rintro e w' ⟨rfl, rfl⟩)
  go_ret
  exact ⟨rfl, rfl⟩
theorem meth1_c93 (W : World) : Sem.run Tryz.prog (method 315 90 (.agg #[]) "given.example/pub-quietzone/pub/gozxing/oned.getSupportedWriteFormats") W = .ok (148, .agg #[]) W := by kernel_rfl
theorem meth2_c93 (W : World) : Sem.run Tryz.prog (method 315 90 (.agg #[]) "given.example/pub-quietzone/pub/gozxing/oned.encodeWithHints") W = .ok (147, .agg #[]) W := by kernel_rfl

set_option maxHeartbeats 2000000 in
set_option maxRecDepth 100000 in
theorem encode_c93_ok (w : World) (g gm : Nat) (text : ByteArray) (wd mg : Int) (code : List Bool) (full out many left rs : Int) (R : Nat)
    (hg : Blk w g 106 #[.iface 90 (.agg #[]), .int .i64 10]) (hm : w.heap[gm]? = some (.map #[⟨.int .i64 5, .iface 3 (.int .i64 mg), 0⟩] 1)) (h0 : 0 < text.size) (h1 : 0 ≤ wd)
    (q0 : 0 < (code.length : Int) + mg) (hm0 : 0 ≤ mg) (hm1 : mg ≤ 1000) (hw1 : wd ≤ 100000) (hlc : code.length ≤ 100000)
    (hfull : (code.length : Int) + mg = full) (hout : (if full < wd then wd else full) = out) (hmany : out / full = many) (hleft : (out - code.length * many) / 2 = left) (hrs : (out + 31) / 32 = rs) (hR : rs = (R : Int))
    (henc : ∀ W : World, Calls Tryz.prog 147 #[.agg #[], .string text, .map (some gm)] W fun e w' => ∃ v, e = .returned (.tuple #[v, .nilIface]) ∧ Kd.R Kd.bool 4 w' W.heap.size (fun _ => True) v code ∧ Below W.heap.size W w') :
    Calls Tryz.prog 94 #[.pointer (some ⟨g, 0, none⟩), .string text, .int .i64 3, .int .i64 wd, .int .i64 1, .map (some gm)] w fun e w' => ∃ b, w.heap.size ≤ b ∧ e = .returned (.tuple #[.pointer (some ⟨b + 1, 0, none⟩), .nilIface]) ∧ Blk w' b 78 (nums .u32 (paint code left many (List.replicate R 0) code.length)).toArray ∧ Blk w' (b + 1) 75 #[.int .i64 out, .int .i64 1, .int .i64 rs, .slice (some ⟨b, 0, none⟩) R R] ∧ Below w.heap.size w w' := by
  have c0 : w.cell? ⟨g, 0, none⟩ = some (.iface 90 (.agg #[])) := hg.cell 0
  have hlen : ((text.size : Int) == 0) = false := beq_eq_false_iff_ne.mpr (by omega)
  have hwd : decide (wd < 0) = false := decide_eq_false (by omega)
  have m1 := meth1_c93
  have HG := Aside0.mk hg
  have HM := Aside0.mk hm
  have HE := Aside0.mk henc
  clear hg hm henc
  have HH := Aside0.mk (⟨hfull, hout, hmany, hleft, hrs, hR⟩ : _ ∧ _ ∧ _ ∧ _ ∧ _ ∧ _)
  clear hfull hout hmany hleft hrs hR
  go_enter Tryz.func94, Tryz.ntmps94
  go_wp2_with fail
  refine (fmts_c93 w).mono ?_
  rintro e w1 ⟨rfl, hw1⟩
  have hb1 : Below w.heap.size w w1 := by rw [hw1]; exact below_alloc (below_alloc (Below.refl _ _) _) _
  have hf : Blk w1 (w.heap.size + 1) 49 (nums .i64 [3]).toArray := by
    rw [hw1]
    have := Blk.new (w.alloc (.cells #[] 90)) 49 (nums .i64 [3]).toArray
    simpa using this
  clear hw1 c0 m1
  have HB1 := Aside0.mk hb1
  have HF := Aside0.mk hf
  clear hb1 hf
  go_wp2_with fail
  refine (contains1 w1 (w.heap.size + 1) 3 HF.out).mono ?_
  rintro e w2 ⟨rfl, hb2⟩
  have HB2 := Aside0.mk (HB1.out.trans (hb2.mono HB1.out.size))
  clear hb2
  have hg2 := HG.out.below HB2.out HG.out.lt
  have c0 : w2.cell? ⟨g, 0, none⟩ = some (.iface 90 (.agg #[])) := hg2.cell 0
  have c1 : w2.cell? ⟨g, 1, none⟩ = some (.int .i64 10) := hg2.cell 1
  have hl := run_lk w2 gm (.iface 3 (.int .i64 mg)) ((HB2.out.block gm (blk_lt HM.out)).trans HM.out)
  have ha := run_ta mg
  have m2 := meth2_c93
  clear hg2
  go_wp2_with fail
  refine (HE.out w2).mono ?_
  rintro e w3 ⟨v, rfl, hr, hb3⟩
  obtain ⟨A, c, rfl, hcl, hc⟩ := Kd.R_reads hr
  have HB3 := Aside0.mk (HB2.out.trans (hb3.mono HB2.out.size))
  have HC := Aside0.mk hc
  clear hc hcl hr hb3 c0 c1 hl
  go_wp2_with fail
  obtain ⟨hfull, hout, hmany, hleft, hrs, hR⟩ := HH.out
  refine (render w3 A c code wd mg full out many left rs R HC.out q0 hm0 hm1 h1 hw1 hlc hfull hout hmany hleft hrs hR).mono ?_
  clear hfull hout hmany hleft hrs hR
  rintro e w4 ⟨rfl, hx1, hx2, hb4⟩
  have HX1 := Aside0.mk hx1
  have HX2 := Aside0.mk hx2
  have HB4 := Aside0.mk (HB3.out.trans (hb4.mono HB3.out.size))
  clear hx1 hx2 hb4
  go_wp2
  go_ret2
  exact ⟨_, HB3.out.size, rfl, HX1.out, HX2.out, HB4.out⟩

set_option maxHeartbeats 2000000 in
set_option maxRecDepth 100000 in
theorem encode_c93_no (w : World) (g gm : Nat) (text : ByteArray) (wd mg : Int) 
    (hg : Blk w g 106 #[.iface 90 (.agg #[]), .int .i64 10]) (hm : w.heap[gm]? = some (.map #[⟨.int .i64 5, .iface 3 (.int .i64 mg), 0⟩] 1)) (h0 : 0 < text.size) (h1 : 0 ≤ wd)
    (henc : ∀ W : World, Calls Tryz.prog 147 #[.agg #[], .string text, .map (some gm)] W fun e w' => ∃ v x, e = .returned (.tuple #[v, .iface 141 x]) ∧ Below W.heap.size W w') :
    Calls Tryz.prog 94 #[.pointer (some ⟨g, 0, none⟩), .string text, .int .i64 3, .int .i64 wd, .int .i64 1, .map (some gm)] w fun e w' => (∃ x, e = .returned (.tuple #[.pointer none, .iface 141 x])) ∧ Below w.heap.size w w' := by
  have c0 : w.cell? ⟨g, 0, none⟩ = some (.iface 90 (.agg #[])) := hg.cell 0
  have hlen : ((text.size : Int) == 0) = false := beq_eq_false_iff_ne.mpr (by omega)
  have hwd : decide (wd < 0) = false := decide_eq_false (by omega)
  have m1 := meth1_c93
  have HG := Aside0.mk hg
  have HM := Aside0.mk hm
  have HE := Aside0.mk henc
  clear hg hm henc
  go_enter Tryz.func94, Tryz.ntmps94
  go_wp2_with fail
  refine (fmts_c93 w).mono ?_
  rintro e w1 ⟨rfl, hw1⟩
  have hb1 : Below w.heap.size w w1 := by rw [hw1]; exact below_alloc (below_alloc (Below.refl _ _) _) _
  have hf : Blk w1 (w.heap.size + 1) 49 (nums .i64 [3]).toArray := by
    rw [hw1]
    have := Blk.new (w.alloc (.cells #[] 90)) 49 (nums .i64 [3]).toArray
    simpa using this
  clear hw1 c0 m1
  have HB1 := Aside0.mk hb1
  have HF := Aside0.mk hf
  clear hb1 hf
  go_wp2_with fail
  refine (contains1 w1 (w.heap.size + 1) 3 HF.out).mono ?_
  rintro e w2 ⟨rfl, hb2⟩
  have HB2 := Aside0.mk (HB1.out.trans (hb2.mono HB1.out.size))
  clear hb2
  have hg2 := HG.out.below HB2.out HG.out.lt
  have c0 : w2.cell? ⟨g, 0, none⟩ = some (.iface 90 (.agg #[])) := hg2.cell 0
  have c1 : w2.cell? ⟨g, 1, none⟩ = some (.int .i64 10) := hg2.cell 1
  have hl := run_lk w2 gm (.iface 3 (.int .i64 mg)) ((HB2.out.block gm (blk_lt HM.out)).trans HM.out)
  have ha := run_ta mg
  have m2 := meth2_c93
  clear hg2
  go_wp2_with fail
  refine (HE.out w2).mono ?_
  rintro e w3 ⟨v, x, rfl, hb3⟩
  have HB3 := Aside0.mk (HB2.out.trans (hb3.mono HB2.out.size))
  clear hb3 c0 c1 hl
  go_wp2
  go_ret2
  exact ⟨⟨_, rfl⟩, HB3.out⟩

set_option maxHeartbeats 2000000 in
set_option maxRecDepth 100000 in
theorem odWrite_c93_ok (w : World) (text : ByteArray) (wd mg : Int) (code : List Bool) (full out many left rs : Int) (R OUT : Nat) (h0 : 0 < text.size) (h1 : 0 ≤ wd)
    (q0 : 0 < (code.length : Int) + mg) (hm0 : 0 ≤ mg) (hm1 : mg ≤ 1000) (hw1 : wd ≤ 100000) (hlc : code.length ≤ 100000)
    (hfull : (code.length : Int) + mg = full) (hout : (if full < wd then wd else full) = out) (hmany : out / full = many) (hleft : (out - code.length * many) / 2 = left) (hrs : (out + 31) / 32 = rs) (hR : rs = (R : Int)) (hOUT : out = (OUT : Int))
    (henc : ∀ (gm : Nat) (W : World), Calls Tryz.prog 147 #[.agg #[], .string text, .map (some gm)] W fun e w' => ∃ v, e = .returned (.tuple #[v, .nilIface]) ∧ Kd.R Kd.bool 4 w' W.heap.size (fun _ => True) v code ∧ Below W.heap.size W w') :
    Calls Tryz.prog 15 #[.int .i64 3, .string text, .int .i64 wd, .int .i64 mg] w fun e w' => ∃ b, e = .returned (.tuple #[.slice (some ⟨b, 0, none⟩) OUT OUT, .bool true]) ∧ Blk w' b 4 (bools (unbits (cpy (paint code left many (List.replicate R 0) code.length) (List.replicate R 0) 0 R) OUT)).toArray ∧ Below w.heap.size w w' := by
  have hmm := @run_makeMap Tryz.prog
  have HE := Aside0.mk henc
  clear henc
  have HH := Aside0.mk (⟨hfull, hout, hmany, hleft, hrs, hR, hOUT⟩ : _ ∧ _ ∧ _ ∧ _ ∧ _ ∧ _ ∧ _)
  have hob : 0 ≤ out ∧ out ≤ 200000 := by split at hout <;> omega
  obtain ⟨hob1, hob2⟩ := hob
  clear hfull hout hmany hleft hrs hR hOUT
  go_enter Tryz.func15, Tryz.ntmps15
  go_wp2_with fail
  refine (writer_c93 w).mono ?_
  rintro e w1 ⟨rfl, hw1⟩
  have hi := run_ins w1 (.iface 3 (.int .i64 mg))
  have hq := methE w.heap.size
  have hb1 : Below w.heap.size w w1 := by rw [hw1]; exact below_alloc (Below.refl _ _) _
  have hg : Blk w1 w.heap.size 106 #[.iface 90 (.agg #[]), .int .i64 10] := by rw [hw1]; exact Blk.new _ _ _
  have HB1 := Aside0.mk hb1
  have HG := Aside0.mk hg
  clear hw1 hb1 hg
  go_wp2_with fail
  obtain ⟨hfull, hout, hmany, hleft, hrs, hR, hOUT⟩ := HH.out
  have hma : Below w1.heap.size w1 (w1.alloc (.map #[⟨.int .i64 5, .iface 3 (.int .i64 mg), 0⟩] 1)) := below_alloc (Below.refl _ _) _
  refine (encode_c93_ok _ w.heap.size w1.heap.size text wd mg code full out many left rs R (HG.out.below hma HG.out.lt) (heap_alloc_new _ _) h0 h1 q0 hm0 hm1 hw1 hlc hfull hout hmany hleft hrs hR (HE.out _)).mono ?_
  rintro e w2 ⟨b, hb, rfl, hx1, hx2, hb2⟩
  have hl : (paint code left many (List.replicate R 0) code.length).length = R := by rw [paint_length, List.length_replicate]
  have HX1 := Aside0.mk hx1
  have HX2 := Aside0.mk hx2
  have HB2 := Aside0.mk (HB1.out.trans ((hma.mono HB1.out.size).trans (hb2.mono (Nat.le_trans HB1.out.size hma.size))))
  have HLL := Aside0.mk hl
  clear hfull hout hmany hleft hrs hR hOUT hma hx1 hx2 hb2 hl hi hmm hq hb
  go_wp2_with fail
  obtain ⟨hfull, hout, hmany, hleft, hrs, hR, hOUT⟩ := HH.out
  refine (getRow w2 (b + 1) b out 1 rs 0 _ R R HX2.out HX1.out HLL.out (by omega) hrs hR (by omega) (by omega) (by omega) (by omega) (by omega)).mono ?_
  rintro e w3 ⟨rfl, hy1, hy2, hb3, hsz⟩
  rw [Int.zero_mul] at hy1
  have hl2 : (cpy (paint code left many (List.replicate R 0) code.length) (List.replicate R 0) 0 R).length = R := by rw [cpy_length, List.length_replicate]
  have HY1 := Aside0.mk hy1
  rw [hOUT] at hy2
  have HY2 := Aside0.mk hy2
  have HB3 := Aside0.mk (HB2.out.trans (hb3.mono HB2.out.size))
  have HL2 := Aside0.mk hl2
  have h32 : ((OUT : Int) + 31) / 32 = R := by rw [← hOUT, hrs, hR]
  have H32 := Aside0.mk h32
  have hou : OUT ≤ 200000 := by omega
  clear hfull hout hmany hleft hrs hR hy1 hy2 hb3 hsz hl2 h32 HLL hOUT
  go_wp2_with fail
  refine (toBools w3 _ _ OUT _ R HY2.out HY1.out HL2.out (by have := H32.out; omega) (by omega) H32.out).mono ?_
  rintro e w4 ⟨rfl, hz, hb4⟩
  have HZ := Aside0.mk hz
  have HB4 := Aside0.mk (HB3.out.trans (hb4.mono HB3.out.size))
  clear hz hb4
  go_wp2
  go_ret2
  exact ⟨_, rfl, HZ.out, HB4.out⟩

set_option maxHeartbeats 2000000 in
set_option maxRecDepth 100000 in
theorem odWrite_c93_no (w : World) (text : ByteArray) (wd mg : Int) (h0 : 0 < text.size) (h1 : 0 ≤ wd)
    (henc : ∀ (gm : Nat) (W : World), Calls Tryz.prog 147 #[.agg #[], .string text, .map (some gm)] W fun e w' => ∃ v x, e = .returned (.tuple #[v, .iface 141 x]) ∧ Below W.heap.size W w') :
    Calls Tryz.prog 15 #[.int .i64 3, .string text, .int .i64 wd, .int .i64 mg] w fun e w' => e = .returned (.tuple #[.slice none 0 0, .bool false]) ∧ Below w.heap.size w w' := by
  have hmm := @run_makeMap Tryz.prog
  have HE := Aside0.mk henc
  clear henc
  go_enter Tryz.func15, Tryz.ntmps15
  go_wp2_with fail
  refine (writer_c93 w).mono ?_
  rintro e w1 ⟨rfl, hw1⟩
  have hi := run_ins w1 (.iface 3 (.int .i64 mg))
  have hq := methE w.heap.size
  have hb1 : Below w.heap.size w w1 := by rw [hw1]; exact below_alloc (Below.refl _ _) _
  have hg : Blk w1 w.heap.size 106 #[.iface 90 (.agg #[]), .int .i64 10] := by rw [hw1]; exact Blk.new _ _ _
  have HB1 := Aside0.mk hb1
  have HG := Aside0.mk hg
  clear hw1 hb1 hg
  go_wp2_with fail
  have hma : Below w1.heap.size w1 (w1.alloc (.map #[⟨.int .i64 5, .iface 3 (.int .i64 mg), 0⟩] 1)) := below_alloc (Below.refl _ _) _
  refine (encode_c93_no _ w.heap.size w1.heap.size text wd mg (HG.out.below hma HG.out.lt) (heap_alloc_new _ _) h0 h1 (HE.out _)).mono ?_
  rintro e w2 ⟨⟨x, rfl⟩, hb2⟩
  have HB2 := Aside0.mk (HB1.out.trans ((hma.mono HB1.out.size).trans (hb2.mono (Nat.le_trans HB1.out.size hma.size))))
  clear hma hb2 hi hmm hq
  go_wp2
  go_ret2
  exact ⟨rfl, HB2.out⟩

/-- ODWrite of the format 3: the row of the code. -/
theorem odRowW_c93 (w : World) (text : ByteArray) (wd mg : Int) (code : List Bool) (h0 : 0 < text.size) (h1 : 0 ≤ wd)
    (q0 : 0 < (code.length : Int) + mg) (hm0 : 0 ≤ mg) (hm1 : mg ≤ 1000) (hw1 : wd ≤ 100000) (hlc : code.length ≤ 100000)
    (henc : ∀ (gm : Nat) (W : World), Calls Tryz.prog 147 #[.agg #[], .string text, .map (some gm)] W fun e w' => ∃ v, e = .returned (.tuple #[v, .nilIface]) ∧ Kd.R Kd.bool 4 w' W.heap.size (fun _ => True) v code ∧ Below W.heap.size W w') :
    Calls Tryz.prog 15 #[.int .i64 3, .string text, .int .i64 wd, .int .i64 mg] w fun e w' => ∃ b, e = .returned (.tuple #[.slice (some ⟨b, 0, none⟩) (rowOf code wd mg).length (rowOf code wd mg).length, .bool true]) ∧ Blk w' b 4 (bools (rowOf code wd mg)).toArray ∧ Below w.heap.size w w' := by
  have ho := rOut_ge code wd mg q0 hm1 hw1 hlc
  refine (odWrite_c93_ok w text wd mg code (rFull code mg) (rOut code wd mg) (rMany code wd mg) (rLeft code wd mg) ((rOut code wd mg + 31) / 32) ((rOut code wd mg + 31) / 32).toNat (rOut code wd mg).toNat h0 h1 q0 hm0 hm1 hw1 hlc rfl rfl rfl rfl rfl (by omega) (by omega) henc).mono ?_
  rintro e w' ⟨b, rfl, hb, hw⟩
  rw [row_eqOf code wd mg q0 hm0 hm1 hw1 hlc _ (by omega)] at hb
  exact ⟨b, by rw [rowOf_length], hb, hw⟩

/-! ### Code 93: the extended text -/
theorem bt_get93 (s : ByteArray) (i : Nat) (h : i < s.size) : ((s[i]'h).toNat : Int) = bt s (i : Int) := by
  rw [← bt_at s (i : Int) (by simpa using h)]
  rfl
theorem lit_reads2 (W : World) (xs : List Int) (hn : xs.length ≤ 100) (cs : Array Value) (hcs : cs = (nums .u8 xs).toArray) (fr : Nat × Nat) : ReadsInt (W.alloc (.cells cs 5 fr)) .u8 (some ⟨W.heap.size, 0, none⟩) xs.length xs := by
  subst hcs
  refine ⟨rfl, by omega, fun _ => ⟨_, rfl, fun j hj => ?_⟩⟩
  rw [add_plain]
  have e : (W.alloc (.cells (nums .u8 xs).toArray 5 fr)).heap[W.heap.size]? = some (.cells (nums .u8 xs).toArray 5 fr) := heap_alloc_new W _
  simp only [World.cell?, e]
  simp [nums, List.getD, List.getElem?_eq_getElem hj]
def ext93 (c : Int) : List Int :=
  if c = 0 then [98, 85] else
  if 1 ≤ c ∧ c ≤ 26 then [97, 65 + c - 1] else
  if 27 ≤ c ∧ c ≤ 31 then [98, 65 + c - 27] else
  if c = 32 then [c] else
  if c = 36 then [c] else
  if c = 37 then [c] else
  if c = 43 then [c] else
  if 33 ≤ c ∧ c ≤ 44 ∧ c ≠ 36 ∧ c ≠ 37 ∧ c ≠ 43 then [99, 65 + c - 33] else
  if 45 ≤ c ∧ c ≤ 57 then [c] else
  if c = 58 then [99, 90] else
  if 59 ≤ c ∧ c ≤ 63 then [98, 70 + c - 59] else
  if c = 64 then [98, 86] else
  if 65 ≤ c ∧ c ≤ 90 then [c] else
  if 91 ≤ c ∧ c ≤ 95 then [98, 75 + c - 91] else
  if c = 96 then [98, 87] else
  if 97 ≤ c ∧ c ≤ 122 then [100, 65 + c - 97] else
  [98, 80 + c - 123]
theorem ite_len2 {p : Prop} [Decidable p] {a b : List Int} (ha : a.length ≤ 2) (hb : b.length ≤ 2) : (if p then a else b).length ≤ 2 := by split <;> assumption
theorem ext93_le (c : Int) : (ext93 c).length ≤ 2 := by
  unfold ext93
  repeat (refine ite_len2 (by simp) ?_)
  simp
def ex93 (t : ByteArray) (i : Nat) : List Int := ((bytesOf t).take i).flatMap ext93
theorem ex93_succ (t : ByteArray) (i : Nat) (h : i < t.size) : ex93 t (i + 1) = ex93 t i ++ ext93 (bt t i) := by
  unfold ex93
  rw [List.take_succ_eq_append_getElem (by rw [bytesOf_length]; exact h), List.flatMap_append]
  have : (bytesOf t)[i]'(by rw [bytesOf_length]; exact h) = bt t i := by
    rw [← rd_bytesOf]; unfold rd
    rw [Int.toNat_natCast, List.getD_eq_getElem?_getD, List.getElem?_eq_getElem (by rw [bytesOf_length]; exact h)]
    rfl
  rw [this]; simp
theorem ex93_le (t : ByteArray) (i : Nat) (h : i ≤ t.size) : (ex93 t i).length ≤ 2 * i := by
  induction i with
  | zero => simp [ex93]
  | succ i ih => rw [ex93_succ t i (by omega), List.length_append]; have := ih (by omega); have := ext93_le (bt t i); omega
theorem make_bn (w : World) (n : Nat) (h : n ≤ 1000) : ∃ w1, (Instr.makeSlice 22 (.int .i64 0) (.int .i64 ((n : Int) * 2))).run Tryz.prog w = .ok (.slice (some ⟨w.heap.size, 0, none⟩) 0 (n * 2)) w1 ∧ w1.ownsRow w.heap.size 5 1 (.slice (some ⟨w.heap.size, 0, none⟩) 0 (n * 2)) ([] : List Int).length (nums .u8 []) ∧ Below w.heap.size w w1 := by
  obtain ⟨i, hi, hz, hs, hb⟩ := info_parts F.info5
  obtain ⟨w1, h1, h2, h3⟩ := run_makeSlice_owned (P := Tryz.prog) (w := w) w.heap.size 22 5 i (.int .u8 0) 1 Tryz.underlying22 hi hz hs .i64 .i64 (n * 2) (by omega) (by rw [hb]; omega) (by simp [maxLen]; omega) (Nat.le_refl _)
  rw [show ((n * 2 : Nat) : Int) = (n : Int) * 2 by omega] at h1
  exact ⟨w1, h1, h2, (Below.refl _ _).grown h3 (Nat.le_refl _) (by simp)⟩
set_option maxHeartbeats 16000000 in
set_option maxRecDepth 100000 in
theorem ext149 (w : World) (t : ByteArray) (n : Nat) (hn : t.size = n) (hm : n ≤ 80) (ha : ∀ i : Nat, bt t i < 128) :
    Calls Tryz.prog 149 #[.string t] w fun e w' => e = .returned (.tuple #[.string (strOfNums (ex93 t n)), .nilIface]) ∧ Below w.heap.size w w' := by
  have hsI : (t.size : Int) = (n : Int) := by omega
  obtain ⟨w1, hmk, ho, hb⟩ := make_bn w n (by omega)
  have HO := Aside0.mk ho
  have HB := Aside0.mk hb
  have kc := fun (W : World) (C : Array Value) (n c : Nat) => Lib.run_convert_bytes_const (P := Tryz.prog) W 22 5 C n c Tryz.underlying22 Tryz.underlying5
  have HA := Aside0.mk ha
  have HN := Aside0.mk hn
  clear ho hb ha hn
  go_enter Tryz.func149, Tryz.ntmps149
  go_wp2_with fail
  clear hmk
  go_loopw [5, 6] (fun v iv wr => ∃ i : Nat, i ≤ n ∧ iv = .int .i64 i ∧ Aside0 (wr.ownsRow w.heap.size 5 1 v (ex93 t i).length (nums .u8 (ex93 t i))) ∧ Aside0 (Below w.heap.size w wr)) (fun _ v _ => n - (intOf v).toNat)
  case atStart => exact ⟨0, by omega, rfl, HO, HB⟩
  case round =>
    clear HO HB
    obtain ⟨i, hi, rfl, HO, HB⟩ := hrel
    by_cases hlt : i < n
    · have hit : i < t.size := by have := HN.out; omega
      obtain ⟨c, hc⟩ : ∃ c : Int, ((t[i]'hit).toNat : Int) = c := ⟨_, rfl⟩
      have hbc : bt t i = c := by rw [← hc, bt_get93 t i hit]
      have hc1 : c ≤ 127 := by have := HA.out i; omega
      have hc0 : 0 ≤ c := by have := bt_range t i; omega
      have HLEN := Aside0.mk (show (ex93 t i).length ≤ 200 by have := ex93_le t i (by omega); omega)
      have HX := Aside0.mk (show ex93 t (i + 1) = ex93 t i ++ ext93 c by rw [ex93_succ t i hit, hbc])
      clear hbc
      have hcs : (c = 0) ∨ (1 ≤ c ∧ c ≤ 26) ∨ (27 ≤ c ∧ c ≤ 31) ∨ (c = 32) ∨ (c = 36) ∨ (c = 37) ∨ (c = 43) ∨ (33 ≤ c ∧ c ≤ 44 ∧ c ≠ 36 ∧ c ≠ 37 ∧ c ≠ 43) ∨ (45 ≤ c ∧ c ≤ 57) ∨ (c = 58) ∨ (59 ≤ c ∧ c ≤ 63) ∨ (c = 64) ∨ (65 ≤ c ∧ c ≤ 90) ∨ (91 ≤ c ∧ c ≤ 95) ∨ (c = 96) ∨ (97 ≤ c ∧ c ≤ 122) ∨ (123 ≤ c ∧ c ≤ 127) := by omega
      rcases hcs with hq | hq | hq | hq | hq | hq | hq | hq | hq | hq | hq | hq | hq | hq | hq | hq | hq
      · have hext : ext93 c = [98, 85] := by unfold ext93; rw [if_pos (by omega)]
        have HEXT := Aside0.mk hext
        clear hext
        have f0 : (c == 0) = true := beq_iff_eq.2 (by omega)
        clear hq
        go_wp2_with (first | ((with_reducible refine gate_builtin (b := .append) (xs := #[.tmp 23, .tmp 25]) rfl ?_); at_builtin; refine print_append_row (w0 := w) w.heap.size rfl (.tmp 23) (.tmp 25) 22 5 .u8 1 rfl Tryz.underlying22 F.info5 (by decide) _ _ [98, 85] _ _ _ rfl rfl (HO.out.alloc _) (lit_reads2 _ [98, 85] (by decide) _ rfl _) (HB.out.alloc HB.out.size _) (by simp; exact Nat.le_succ_of_le HB.out.size) ?aL ?_; (case aL => (have := HLEN.out; (try simp only [List.length_append, List.length_cons, List.length_nil]); omega)); intro v w1 ho hb hg hat; have n0_ := Aside0.mk ho; have n1_ := Aside0.mk hb; clear HO HB; have HO := n0_; have HB := n1_; clear n0_ n1_ ho hb hg; (try clear hat)))
        go_roundw
        case rel => exact ⟨i + 1, by omega, by go_num, ⟨by rw [HX.out, HEXT.out]; have := HO.out; simpa using this⟩, HB⟩
        case measure => simp [intOf]; omega
      · have hext : ext93 c = [97, 65 + c - 1] := by unfold ext93; rw [if_neg (by omega), if_pos (by omega)]
        have HEXT := Aside0.mk hext
        clear hext
        have f0 : (c == 0) = false := beq_eq_false_iff_ne.2 (by omega)
        have f1 : decide (c ≤ 26) = true := decide_eq_true (by omega)
        obtain ⟨hq0, hq1⟩ := hq
        go_wp2_with (first | ((with_reducible refine gate_builtin (b := .append) (xs := #[.tmp 29, .tmp 30]) rfl ?_); at_builtin; refine print_append_num (w0 := w) w.heap.size rfl (.tmp 29) (.tmp 30) 22 5 .u8 1 rfl Tryz.underlying22 F.info5 (by decide) _ _ _ rfl rfl HO.out HB.out HB.out.size ?aL ?_; (case aL => (have := HLEN.out; (try simp only [List.length_append, List.length_cons, List.length_nil]); omega)); intro v w1 ho hb hg hat; have n0_ := Aside0.mk ho; have n1_ := Aside0.mk hb; clear HO HB; have HO := n0_; have HB := n1_; clear n0_ n1_ ho hb hg; (try clear hat)) | ((with_reducible refine gate_builtin (b := .append) (xs := #[.tmp 32, .tmp 36]) rfl ?_); at_builtin; refine print_append_num (w0 := w) w.heap.size rfl (.tmp 32) (.tmp 36) 22 5 .u8 1 rfl Tryz.underlying22 F.info5 (by decide) _ _ _ rfl rfl HO.out HB.out HB.out.size ?aL ?_; (case aL => (have := HLEN.out; (try simp only [List.length_append, List.length_cons, List.length_nil]); omega)); intro v w1 ho hb hg hat; have n0_ := Aside0.mk ho; have n1_ := Aside0.mk hb; clear HO HB; have HO := n0_; have HB := n1_; clear n0_ n1_ ho hb hg; (try clear hat)))
        go_roundw
        case rel => exact ⟨i + 1, by omega, by go_num, ⟨by rw [HX.out, HEXT.out]; have := HO.out; simpa using this⟩, HB⟩
        case measure => simp [intOf]; omega
      · have hext : ext93 c = [98, 65 + c - 27] := by unfold ext93; rw [if_neg (by omega), if_neg (by omega), if_pos (by omega)]
        have HEXT := Aside0.mk hext
        clear hext
        have f0 : (c == 0) = false := beq_eq_false_iff_ne.2 (by omega)
        have f1 : decide (c ≤ 26) = false := decide_eq_false (by omega)
        have f2 : decide (c ≤ 31) = true := decide_eq_true (by omega)
        obtain ⟨hq0, hq1⟩ := hq
        go_wp2_with (first | ((with_reducible refine gate_builtin (b := .append) (xs := #[.tmp 40, .tmp 41]) rfl ?_); at_builtin; refine print_append_num (w0 := w) w.heap.size rfl (.tmp 40) (.tmp 41) 22 5 .u8 1 rfl Tryz.underlying22 F.info5 (by decide) _ _ _ rfl rfl HO.out HB.out HB.out.size ?aL ?_; (case aL => (have := HLEN.out; (try simp only [List.length_append, List.length_cons, List.length_nil]); omega)); intro v w1 ho hb hg hat; have n0_ := Aside0.mk ho; have n1_ := Aside0.mk hb; clear HO HB; have HO := n0_; have HB := n1_; clear n0_ n1_ ho hb hg; (try clear hat)) | ((with_reducible refine gate_builtin (b := .append) (xs := #[.tmp 43, .tmp 47]) rfl ?_); at_builtin; refine print_append_num (w0 := w) w.heap.size rfl (.tmp 43) (.tmp 47) 22 5 .u8 1 rfl Tryz.underlying22 F.info5 (by decide) _ _ _ rfl rfl HO.out HB.out HB.out.size ?aL ?_; (case aL => (have := HLEN.out; (try simp only [List.length_append, List.length_cons, List.length_nil]); omega)); intro v w1 ho hb hg hat; have n0_ := Aside0.mk ho; have n1_ := Aside0.mk hb; clear HO HB; have HO := n0_; have HB := n1_; clear n0_ n1_ ho hb hg; (try clear hat)))
        go_roundw
        case rel => exact ⟨i + 1, by omega, by go_num, ⟨by rw [HX.out, HEXT.out]; have := HO.out; simpa using this⟩, HB⟩
        case measure => simp [intOf]; omega
      · have hext : ext93 c = [c] := by unfold ext93; rw [if_neg (by omega), if_neg (by omega), if_neg (by omega), if_pos (by omega)]
        have HEXT := Aside0.mk hext
        clear hext
        have f0 : (c == 0) = false := beq_eq_false_iff_ne.2 (by omega)
        have f1 : decide (c ≤ 26) = false := decide_eq_false (by omega)
        have f2 : decide (c ≤ 31) = false := decide_eq_false (by omega)
        have f3 : (c == 32) = true := beq_iff_eq.2 (by omega)
        clear hq
        go_wp2_with (first | ((with_reducible refine gate_builtin (b := .append) (xs := #[.tmp 63, .tmp 65]) rfl ?_); at_builtin; refine print_append_num (w0 := w) w.heap.size rfl (.tmp 63) (.tmp 65) 22 5 .u8 1 rfl Tryz.underlying22 F.info5 (by decide) _ _ _ rfl rfl HO.out HB.out HB.out.size ?aL ?_; (case aL => (have := HLEN.out; (try simp only [List.length_append, List.length_cons, List.length_nil]); omega)); intro v w1 ho hb hg hat; have n0_ := Aside0.mk ho; have n1_ := Aside0.mk hb; clear HO HB; have HO := n0_; have HB := n1_; clear n0_ n1_ ho hb hg; (try clear hat)))
        go_roundw
        case rel => exact ⟨i + 1, by omega, by go_num, ⟨by rw [HX.out, HEXT.out]; have := HO.out; simpa using this⟩, HB⟩
        case measure => simp [intOf]; omega
      · have hext : ext93 c = [c] := by unfold ext93; rw [if_neg (by omega), if_neg (by omega), if_neg (by omega), if_neg (by omega), if_pos (by omega)]
        have HEXT := Aside0.mk hext
        clear hext
        have f0 : (c == 0) = false := beq_eq_false_iff_ne.2 (by omega)
        have f1 : decide (c ≤ 26) = false := decide_eq_false (by omega)
        have f2 : decide (c ≤ 31) = false := decide_eq_false (by omega)
        have f3 : (c == 32) = false := beq_eq_false_iff_ne.2 (by omega)
        have f4 : (c == 36) = true := beq_iff_eq.2 (by omega)
        clear hq
        go_wp2_with (first | ((with_reducible refine gate_builtin (b := .append) (xs := #[.tmp 63, .tmp 65]) rfl ?_); at_builtin; refine print_append_num (w0 := w) w.heap.size rfl (.tmp 63) (.tmp 65) 22 5 .u8 1 rfl Tryz.underlying22 F.info5 (by decide) _ _ _ rfl rfl HO.out HB.out HB.out.size ?aL ?_; (case aL => (have := HLEN.out; (try simp only [List.length_append, List.length_cons, List.length_nil]); omega)); intro v w1 ho hb hg hat; have n0_ := Aside0.mk ho; have n1_ := Aside0.mk hb; clear HO HB; have HO := n0_; have HB := n1_; clear n0_ n1_ ho hb hg; (try clear hat)))
        go_roundw
        case rel => exact ⟨i + 1, by omega, by go_num, ⟨by rw [HX.out, HEXT.out]; have := HO.out; simpa using this⟩, HB⟩
        case measure => simp [intOf]; omega
      · have hext : ext93 c = [c] := by unfold ext93; rw [if_neg (by omega), if_neg (by omega), if_neg (by omega), if_neg (by omega), if_neg (by omega), if_pos (by omega)]
        have HEXT := Aside0.mk hext
        clear hext
        have f0 : (c == 0) = false := beq_eq_false_iff_ne.2 (by omega)
        have f1 : decide (c ≤ 26) = false := decide_eq_false (by omega)
        have f2 : decide (c ≤ 31) = false := decide_eq_false (by omega)
        have f3 : (c == 32) = false := beq_eq_false_iff_ne.2 (by omega)
        have f4 : (c == 36) = false := beq_eq_false_iff_ne.2 (by omega)
        have f5 : (c == 37) = true := beq_iff_eq.2 (by omega)
        clear hq
        go_wp2_with (first | ((with_reducible refine gate_builtin (b := .append) (xs := #[.tmp 63, .tmp 65]) rfl ?_); at_builtin; refine print_append_num (w0 := w) w.heap.size rfl (.tmp 63) (.tmp 65) 22 5 .u8 1 rfl Tryz.underlying22 F.info5 (by decide) _ _ _ rfl rfl HO.out HB.out HB.out.size ?aL ?_; (case aL => (have := HLEN.out; (try simp only [List.length_append, List.length_cons, List.length_nil]); omega)); intro v w1 ho hb hg hat; have n0_ := Aside0.mk ho; have n1_ := Aside0.mk hb; clear HO HB; have HO := n0_; have HB := n1_; clear n0_ n1_ ho hb hg; (try clear hat)))
        go_roundw
        case rel => exact ⟨i + 1, by omega, by go_num, ⟨by rw [HX.out, HEXT.out]; have := HO.out; simpa using this⟩, HB⟩
        case measure => simp [intOf]; omega
      · have hext : ext93 c = [c] := by unfold ext93; rw [if_neg (by omega), if_neg (by omega), if_neg (by omega), if_neg (by omega), if_neg (by omega), if_neg (by omega), if_pos (by omega)]
        have HEXT := Aside0.mk hext
        clear hext
        have f0 : (c == 0) = false := beq_eq_false_iff_ne.2 (by omega)
        have f1 : decide (c ≤ 26) = false := decide_eq_false (by omega)
        have f2 : decide (c ≤ 31) = false := decide_eq_false (by omega)
        have f3 : (c == 32) = false := beq_eq_false_iff_ne.2 (by omega)
        have f4 : (c == 36) = false := beq_eq_false_iff_ne.2 (by omega)
        have f5 : (c == 37) = false := beq_eq_false_iff_ne.2 (by omega)
        have f6 : (c == 43) = true := beq_iff_eq.2 (by omega)
        clear hq
        go_wp2_with (first | ((with_reducible refine gate_builtin (b := .append) (xs := #[.tmp 63, .tmp 65]) rfl ?_); at_builtin; refine print_append_num (w0 := w) w.heap.size rfl (.tmp 63) (.tmp 65) 22 5 .u8 1 rfl Tryz.underlying22 F.info5 (by decide) _ _ _ rfl rfl HO.out HB.out HB.out.size ?aL ?_; (case aL => (have := HLEN.out; (try simp only [List.length_append, List.length_cons, List.length_nil]); omega)); intro v w1 ho hb hg hat; have n0_ := Aside0.mk ho; have n1_ := Aside0.mk hb; clear HO HB; have HO := n0_; have HB := n1_; clear n0_ n1_ ho hb hg; (try clear hat)))
        go_roundw
        case rel => exact ⟨i + 1, by omega, by go_num, ⟨by rw [HX.out, HEXT.out]; have := HO.out; simpa using this⟩, HB⟩
        case measure => simp [intOf]; omega
      · have hext : ext93 c = [99, 65 + c - 33] := by unfold ext93; rw [if_neg (by omega), if_neg (by omega), if_neg (by omega), if_neg (by omega), if_neg (by omega), if_neg (by omega), if_neg (by omega), if_pos (by omega)]
        have HEXT := Aside0.mk hext
        clear hext
        have f0 : (c == 0) = false := beq_eq_false_iff_ne.2 (by omega)
        have f1 : decide (c ≤ 26) = false := decide_eq_false (by omega)
        have f2 : decide (c ≤ 31) = false := decide_eq_false (by omega)
        have f3 : (c == 32) = false := beq_eq_false_iff_ne.2 (by omega)
        have f4 : (c == 36) = false := beq_eq_false_iff_ne.2 (by omega)
        have f5 : (c == 37) = false := beq_eq_false_iff_ne.2 (by omega)
        have f6 : (c == 43) = false := beq_eq_false_iff_ne.2 (by omega)
        have f7 : decide (c ≤ 44) = true := decide_eq_true (by omega)
        obtain ⟨hq0, hq1, hq2, hq3, hq4⟩ := hq
        clear hq2 hq3 hq4
        go_wp2_with (first | ((with_reducible refine gate_builtin (b := .append) (xs := #[.tmp 69, .tmp 70]) rfl ?_); at_builtin; refine print_append_num (w0 := w) w.heap.size rfl (.tmp 69) (.tmp 70) 22 5 .u8 1 rfl Tryz.underlying22 F.info5 (by decide) _ _ _ rfl rfl HO.out HB.out HB.out.size ?aL ?_; (case aL => (have := HLEN.out; (try simp only [List.length_append, List.length_cons, List.length_nil]); omega)); intro v w1 ho hb hg hat; have n0_ := Aside0.mk ho; have n1_ := Aside0.mk hb; clear HO HB; have HO := n0_; have HB := n1_; clear n0_ n1_ ho hb hg; (try clear hat)) | ((with_reducible refine gate_builtin (b := .append) (xs := #[.tmp 72, .tmp 76]) rfl ?_); at_builtin; refine print_append_num (w0 := w) w.heap.size rfl (.tmp 72) (.tmp 76) 22 5 .u8 1 rfl Tryz.underlying22 F.info5 (by decide) _ _ _ rfl rfl HO.out HB.out HB.out.size ?aL ?_; (case aL => (have := HLEN.out; (try simp only [List.length_append, List.length_cons, List.length_nil]); omega)); intro v w1 ho hb hg hat; have n0_ := Aside0.mk ho; have n1_ := Aside0.mk hb; clear HO HB; have HO := n0_; have HB := n1_; clear n0_ n1_ ho hb hg; (try clear hat)))
        go_roundw
        case rel => exact ⟨i + 1, by omega, by go_num, ⟨by rw [HX.out, HEXT.out]; have := HO.out; simpa using this⟩, HB⟩
        case measure => simp [intOf]; omega
      · have hext : ext93 c = [c] := by unfold ext93; rw [if_neg (by omega), if_neg (by omega), if_neg (by omega), if_neg (by omega), if_neg (by omega), if_neg (by omega), if_neg (by omega), if_neg (by omega), if_pos (by omega)]
        have HEXT := Aside0.mk hext
        clear hext
        have f0 : (c == 0) = false := beq_eq_false_iff_ne.2 (by omega)
        have f1 : decide (c ≤ 26) = false := decide_eq_false (by omega)
        have f2 : decide (c ≤ 31) = false := decide_eq_false (by omega)
        have f3 : (c == 32) = false := beq_eq_false_iff_ne.2 (by omega)
        have f4 : (c == 36) = false := beq_eq_false_iff_ne.2 (by omega)
        have f5 : (c == 37) = false := beq_eq_false_iff_ne.2 (by omega)
        have f6 : (c == 43) = false := beq_eq_false_iff_ne.2 (by omega)
        have f7 : decide (c ≤ 44) = false := decide_eq_false (by omega)
        have f8 : decide (c ≤ 57) = true := decide_eq_true (by omega)
        obtain ⟨hq0, hq1⟩ := hq
        go_wp2_with (first | ((with_reducible refine gate_builtin (b := .append) (xs := #[.tmp 80, .tmp 82]) rfl ?_); at_builtin; refine print_append_num (w0 := w) w.heap.size rfl (.tmp 80) (.tmp 82) 22 5 .u8 1 rfl Tryz.underlying22 F.info5 (by decide) _ _ _ rfl rfl HO.out HB.out HB.out.size ?aL ?_; (case aL => (have := HLEN.out; (try simp only [List.length_append, List.length_cons, List.length_nil]); omega)); intro v w1 ho hb hg hat; have n0_ := Aside0.mk ho; have n1_ := Aside0.mk hb; clear HO HB; have HO := n0_; have HB := n1_; clear n0_ n1_ ho hb hg; (try clear hat)))
        go_roundw
        case rel => exact ⟨i + 1, by omega, by go_num, ⟨by rw [HX.out, HEXT.out]; have := HO.out; simpa using this⟩, HB⟩
        case measure => simp [intOf]; omega
      · have hext : ext93 c = [99, 90] := by unfold ext93; rw [if_neg (by omega), if_neg (by omega), if_neg (by omega), if_neg (by omega), if_neg (by omega), if_neg (by omega), if_neg (by omega), if_neg (by omega), if_neg (by omega), if_pos (by omega)]
        have HEXT := Aside0.mk hext
        clear hext
        have f0 : (c == 0) = false := beq_eq_false_iff_ne.2 (by omega)
        have f1 : decide (c ≤ 26) = false := decide_eq_false (by omega)
        have f2 : decide (c ≤ 31) = false := decide_eq_false (by omega)
        have f3 : (c == 32) = false := beq_eq_false_iff_ne.2 (by omega)
        have f4 : (c == 36) = false := beq_eq_false_iff_ne.2 (by omega)
        have f5 : (c == 37) = false := beq_eq_false_iff_ne.2 (by omega)
        have f6 : (c == 43) = false := beq_eq_false_iff_ne.2 (by omega)
        have f7 : decide (c ≤ 44) = false := decide_eq_false (by omega)
        have f8 : decide (c ≤ 57) = false := decide_eq_false (by omega)
        have f9 : (c == 58) = true := beq_iff_eq.2 (by omega)
        clear hq
        go_wp2_with (first | ((with_reducible refine gate_builtin (b := .append) (xs := #[.tmp 86, .tmp 88]) rfl ?_); at_builtin; refine print_append_row (w0 := w) w.heap.size rfl (.tmp 86) (.tmp 88) 22 5 .u8 1 rfl Tryz.underlying22 F.info5 (by decide) _ _ [99, 90] _ _ _ rfl rfl (HO.out.alloc _) (lit_reads2 _ [99, 90] (by decide) _ rfl _) (HB.out.alloc HB.out.size _) (by simp; exact Nat.le_succ_of_le HB.out.size) ?aL ?_; (case aL => (have := HLEN.out; (try simp only [List.length_append, List.length_cons, List.length_nil]); omega)); intro v w1 ho hb hg hat; have n0_ := Aside0.mk ho; have n1_ := Aside0.mk hb; clear HO HB; have HO := n0_; have HB := n1_; clear n0_ n1_ ho hb hg; (try clear hat)))
        go_roundw
        case rel => exact ⟨i + 1, by omega, by go_num, ⟨by rw [HX.out, HEXT.out]; have := HO.out; simpa using this⟩, HB⟩
        case measure => simp [intOf]; omega
      · have hext : ext93 c = [98, 70 + c - 59] := by unfold ext93; rw [if_neg (by omega), if_neg (by omega), if_neg (by omega), if_neg (by omega), if_neg (by omega), if_neg (by omega), if_neg (by omega), if_neg (by omega), if_neg (by omega), if_neg (by omega), if_pos (by omega)]
        have HEXT := Aside0.mk hext
        clear hext
        have f0 : (c == 0) = false := beq_eq_false_iff_ne.2 (by omega)
        have f1 : decide (c ≤ 26) = false := decide_eq_false (by omega)
        have f2 : decide (c ≤ 31) = false := decide_eq_false (by omega)
        have f3 : (c == 32) = false := beq_eq_false_iff_ne.2 (by omega)
        have f4 : (c == 36) = false := beq_eq_false_iff_ne.2 (by omega)
        have f5 : (c == 37) = false := beq_eq_false_iff_ne.2 (by omega)
        have f6 : (c == 43) = false := beq_eq_false_iff_ne.2 (by omega)
        have f7 : decide (c ≤ 44) = false := decide_eq_false (by omega)
        have f8 : decide (c ≤ 57) = false := decide_eq_false (by omega)
        have f9 : (c == 58) = false := beq_eq_false_iff_ne.2 (by omega)
        have f10 : decide (c ≤ 63) = true := decide_eq_true (by omega)
        obtain ⟨hq0, hq1⟩ := hq
        go_wp2_with (first | ((with_reducible refine gate_builtin (b := .append) (xs := #[.tmp 92, .tmp 93]) rfl ?_); at_builtin; refine print_append_num (w0 := w) w.heap.size rfl (.tmp 92) (.tmp 93) 22 5 .u8 1 rfl Tryz.underlying22 F.info5 (by decide) _ _ _ rfl rfl HO.out HB.out HB.out.size ?aL ?_; (case aL => (have := HLEN.out; (try simp only [List.length_append, List.length_cons, List.length_nil]); omega)); intro v w1 ho hb hg hat; have n0_ := Aside0.mk ho; have n1_ := Aside0.mk hb; clear HO HB; have HO := n0_; have HB := n1_; clear n0_ n1_ ho hb hg; (try clear hat)) | ((with_reducible refine gate_builtin (b := .append) (xs := #[.tmp 95, .tmp 99]) rfl ?_); at_builtin; refine print_append_num (w0 := w) w.heap.size rfl (.tmp 95) (.tmp 99) 22 5 .u8 1 rfl Tryz.underlying22 F.info5 (by decide) _ _ _ rfl rfl HO.out HB.out HB.out.size ?aL ?_; (case aL => (have := HLEN.out; (try simp only [List.length_append, List.length_cons, List.length_nil]); omega)); intro v w1 ho hb hg hat; have n0_ := Aside0.mk ho; have n1_ := Aside0.mk hb; clear HO HB; have HO := n0_; have HB := n1_; clear n0_ n1_ ho hb hg; (try clear hat)))
        go_roundw
        case rel => exact ⟨i + 1, by omega, by go_num, ⟨by rw [HX.out, HEXT.out]; have := HO.out; simpa using this⟩, HB⟩
        case measure => simp [intOf]; omega
      · have hext : ext93 c = [98, 86] := by unfold ext93; rw [if_neg (by omega), if_neg (by omega), if_neg (by omega), if_neg (by omega), if_neg (by omega), if_neg (by omega), if_neg (by omega), if_neg (by omega), if_neg (by omega), if_neg (by omega), if_neg (by omega), if_pos (by omega)]
        have HEXT := Aside0.mk hext
        clear hext
        have f0 : (c == 0) = false := beq_eq_false_iff_ne.2 (by omega)
        have f1 : decide (c ≤ 26) = false := decide_eq_false (by omega)
        have f2 : decide (c ≤ 31) = false := decide_eq_false (by omega)
        have f3 : (c == 32) = false := beq_eq_false_iff_ne.2 (by omega)
        have f4 : (c == 36) = false := beq_eq_false_iff_ne.2 (by omega)
        have f5 : (c == 37) = false := beq_eq_false_iff_ne.2 (by omega)
        have f6 : (c == 43) = false := beq_eq_false_iff_ne.2 (by omega)
        have f7 : decide (c ≤ 44) = false := decide_eq_false (by omega)
        have f8 : decide (c ≤ 57) = false := decide_eq_false (by omega)
        have f9 : (c == 58) = false := beq_eq_false_iff_ne.2 (by omega)
        have f10 : decide (c ≤ 63) = false := decide_eq_false (by omega)
        have f11 : (c == 64) = true := beq_iff_eq.2 (by omega)
        clear hq
        go_wp2_with (first | ((with_reducible refine gate_builtin (b := .append) (xs := #[.tmp 103, .tmp 105]) rfl ?_); at_builtin; refine print_append_row (w0 := w) w.heap.size rfl (.tmp 103) (.tmp 105) 22 5 .u8 1 rfl Tryz.underlying22 F.info5 (by decide) _ _ [98, 86] _ _ _ rfl rfl (HO.out.alloc _) (lit_reads2 _ [98, 86] (by decide) _ rfl _) (HB.out.alloc HB.out.size _) (by simp; exact Nat.le_succ_of_le HB.out.size) ?aL ?_; (case aL => (have := HLEN.out; (try simp only [List.length_append, List.length_cons, List.length_nil]); omega)); intro v w1 ho hb hg hat; have n0_ := Aside0.mk ho; have n1_ := Aside0.mk hb; clear HO HB; have HO := n0_; have HB := n1_; clear n0_ n1_ ho hb hg; (try clear hat)))
        go_roundw
        case rel => exact ⟨i + 1, by omega, by go_num, ⟨by rw [HX.out, HEXT.out]; have := HO.out; simpa using this⟩, HB⟩
        case measure => simp [intOf]; omega
      · have hext : ext93 c = [c] := by unfold ext93; rw [if_neg (by omega), if_neg (by omega), if_neg (by omega), if_neg (by omega), if_neg (by omega), if_neg (by omega), if_neg (by omega), if_neg (by omega), if_neg (by omega), if_neg (by omega), if_neg (by omega), if_neg (by omega), if_pos (by omega)]
        have HEXT := Aside0.mk hext
        clear hext
        have f0 : (c == 0) = false := beq_eq_false_iff_ne.2 (by omega)
        have f1 : decide (c ≤ 26) = false := decide_eq_false (by omega)
        have f2 : decide (c ≤ 31) = false := decide_eq_false (by omega)
        have f3 : (c == 32) = false := beq_eq_false_iff_ne.2 (by omega)
        have f4 : (c == 36) = false := beq_eq_false_iff_ne.2 (by omega)
        have f5 : (c == 37) = false := beq_eq_false_iff_ne.2 (by omega)
        have f6 : (c == 43) = false := beq_eq_false_iff_ne.2 (by omega)
        have f7 : decide (c ≤ 44) = false := decide_eq_false (by omega)
        have f8 : decide (c ≤ 57) = false := decide_eq_false (by omega)
        have f9 : (c == 58) = false := beq_eq_false_iff_ne.2 (by omega)
        have f10 : decide (c ≤ 63) = false := decide_eq_false (by omega)
        have f11 : (c == 64) = false := beq_eq_false_iff_ne.2 (by omega)
        have f12 : decide (c ≤ 90) = true := decide_eq_true (by omega)
        obtain ⟨hq0, hq1⟩ := hq
        go_wp2_with (first | ((with_reducible refine gate_builtin (b := .append) (xs := #[.tmp 109, .tmp 111]) rfl ?_); at_builtin; refine print_append_num (w0 := w) w.heap.size rfl (.tmp 109) (.tmp 111) 22 5 .u8 1 rfl Tryz.underlying22 F.info5 (by decide) _ _ _ rfl rfl HO.out HB.out HB.out.size ?aL ?_; (case aL => (have := HLEN.out; (try simp only [List.length_append, List.length_cons, List.length_nil]); omega)); intro v w1 ho hb hg hat; have n0_ := Aside0.mk ho; have n1_ := Aside0.mk hb; clear HO HB; have HO := n0_; have HB := n1_; clear n0_ n1_ ho hb hg; (try clear hat)))
        go_roundw
        case rel => exact ⟨i + 1, by omega, by go_num, ⟨by rw [HX.out, HEXT.out]; have := HO.out; simpa using this⟩, HB⟩
        case measure => simp [intOf]; omega
      · have hext : ext93 c = [98, 75 + c - 91] := by unfold ext93; rw [if_neg (by omega), if_neg (by omega), if_neg (by omega), if_neg (by omega), if_neg (by omega), if_neg (by omega), if_neg (by omega), if_neg (by omega), if_neg (by omega), if_neg (by omega), if_neg (by omega), if_neg (by omega), if_neg (by omega), if_pos (by omega)]
        have HEXT := Aside0.mk hext
        clear hext
        have f0 : (c == 0) = false := beq_eq_false_iff_ne.2 (by omega)
        have f1 : decide (c ≤ 26) = false := decide_eq_false (by omega)
        have f2 : decide (c ≤ 31) = false := decide_eq_false (by omega)
        have f3 : (c == 32) = false := beq_eq_false_iff_ne.2 (by omega)
        have f4 : (c == 36) = false := beq_eq_false_iff_ne.2 (by omega)
        have f5 : (c == 37) = false := beq_eq_false_iff_ne.2 (by omega)
        have f6 : (c == 43) = false := beq_eq_false_iff_ne.2 (by omega)
        have f7 : decide (c ≤ 44) = false := decide_eq_false (by omega)
        have f8 : decide (c ≤ 57) = false := decide_eq_false (by omega)
        have f9 : (c == 58) = false := beq_eq_false_iff_ne.2 (by omega)
        have f10 : decide (c ≤ 63) = false := decide_eq_false (by omega)
        have f11 : (c == 64) = false := beq_eq_false_iff_ne.2 (by omega)
        have f12 : decide (c ≤ 90) = false := decide_eq_false (by omega)
        have f13 : decide (c ≤ 95) = true := decide_eq_true (by omega)
        obtain ⟨hq0, hq1⟩ := hq
        go_wp2_with (first | ((with_reducible refine gate_builtin (b := .append) (xs := #[.tmp 115, .tmp 116]) rfl ?_); at_builtin; refine print_append_num (w0 := w) w.heap.size rfl (.tmp 115) (.tmp 116) 22 5 .u8 1 rfl Tryz.underlying22 F.info5 (by decide) _ _ _ rfl rfl HO.out HB.out HB.out.size ?aL ?_; (case aL => (have := HLEN.out; (try simp only [List.length_append, List.length_cons, List.length_nil]); omega)); intro v w1 ho hb hg hat; have n0_ := Aside0.mk ho; have n1_ := Aside0.mk hb; clear HO HB; have HO := n0_; have HB := n1_; clear n0_ n1_ ho hb hg; (try clear hat)) | ((with_reducible refine gate_builtin (b := .append) (xs := #[.tmp 118, .tmp 122]) rfl ?_); at_builtin; refine print_append_num (w0 := w) w.heap.size rfl (.tmp 118) (.tmp 122) 22 5 .u8 1 rfl Tryz.underlying22 F.info5 (by decide) _ _ _ rfl rfl HO.out HB.out HB.out.size ?aL ?_; (case aL => (have := HLEN.out; (try simp only [List.length_append, List.length_cons, List.length_nil]); omega)); intro v w1 ho hb hg hat; have n0_ := Aside0.mk ho; have n1_ := Aside0.mk hb; clear HO HB; have HO := n0_; have HB := n1_; clear n0_ n1_ ho hb hg; (try clear hat)))
        go_roundw
        case rel => exact ⟨i + 1, by omega, by go_num, ⟨by rw [HX.out, HEXT.out]; have := HO.out; simpa using this⟩, HB⟩
        case measure => simp [intOf]; omega
      · have hext : ext93 c = [98, 87] := by unfold ext93; rw [if_neg (by omega), if_neg (by omega), if_neg (by omega), if_neg (by omega), if_neg (by omega), if_neg (by omega), if_neg (by omega), if_neg (by omega), if_neg (by omega), if_neg (by omega), if_neg (by omega), if_neg (by omega), if_neg (by omega), if_neg (by omega), if_pos (by omega)]
        have HEXT := Aside0.mk hext
        clear hext
        have f0 : (c == 0) = false := beq_eq_false_iff_ne.2 (by omega)
        have f1 : decide (c ≤ 26) = false := decide_eq_false (by omega)
        have f2 : decide (c ≤ 31) = false := decide_eq_false (by omega)
        have f3 : (c == 32) = false := beq_eq_false_iff_ne.2 (by omega)
        have f4 : (c == 36) = false := beq_eq_false_iff_ne.2 (by omega)
        have f5 : (c == 37) = false := beq_eq_false_iff_ne.2 (by omega)
        have f6 : (c == 43) = false := beq_eq_false_iff_ne.2 (by omega)
        have f7 : decide (c ≤ 44) = false := decide_eq_false (by omega)
        have f8 : decide (c ≤ 57) = false := decide_eq_false (by omega)
        have f9 : (c == 58) = false := beq_eq_false_iff_ne.2 (by omega)
        have f10 : decide (c ≤ 63) = false := decide_eq_false (by omega)
        have f11 : (c == 64) = false := beq_eq_false_iff_ne.2 (by omega)
        have f12 : decide (c ≤ 90) = false := decide_eq_false (by omega)
        have f13 : decide (c ≤ 95) = false := decide_eq_false (by omega)
        have f14 : (c == 96) = true := beq_iff_eq.2 (by omega)
        clear hq
        go_wp2_with (first | ((with_reducible refine gate_builtin (b := .append) (xs := #[.tmp 126, .tmp 128]) rfl ?_); at_builtin; refine print_append_row (w0 := w) w.heap.size rfl (.tmp 126) (.tmp 128) 22 5 .u8 1 rfl Tryz.underlying22 F.info5 (by decide) _ _ [98, 87] _ _ _ rfl rfl (HO.out.alloc _) (lit_reads2 _ [98, 87] (by decide) _ rfl _) (HB.out.alloc HB.out.size _) (by simp; exact Nat.le_succ_of_le HB.out.size) ?aL ?_; (case aL => (have := HLEN.out; (try simp only [List.length_append, List.length_cons, List.length_nil]); omega)); intro v w1 ho hb hg hat; have n0_ := Aside0.mk ho; have n1_ := Aside0.mk hb; clear HO HB; have HO := n0_; have HB := n1_; clear n0_ n1_ ho hb hg; (try clear hat)))
        go_roundw
        case rel => exact ⟨i + 1, by omega, by go_num, ⟨by rw [HX.out, HEXT.out]; have := HO.out; simpa using this⟩, HB⟩
        case measure => simp [intOf]; omega
      · have hext : ext93 c = [100, 65 + c - 97] := by unfold ext93; rw [if_neg (by omega), if_neg (by omega), if_neg (by omega), if_neg (by omega), if_neg (by omega), if_neg (by omega), if_neg (by omega), if_neg (by omega), if_neg (by omega), if_neg (by omega), if_neg (by omega), if_neg (by omega), if_neg (by omega), if_neg (by omega), if_neg (by omega), if_pos (by omega)]
        have HEXT := Aside0.mk hext
        clear hext
        have f0 : (c == 0) = false := beq_eq_false_iff_ne.2 (by omega)
        have f1 : decide (c ≤ 26) = false := decide_eq_false (by omega)
        have f2 : decide (c ≤ 31) = false := decide_eq_false (by omega)
        have f3 : (c == 32) = false := beq_eq_false_iff_ne.2 (by omega)
        have f4 : (c == 36) = false := beq_eq_false_iff_ne.2 (by omega)
        have f5 : (c == 37) = false := beq_eq_false_iff_ne.2 (by omega)
        have f6 : (c == 43) = false := beq_eq_false_iff_ne.2 (by omega)
        have f7 : decide (c ≤ 44) = false := decide_eq_false (by omega)
        have f8 : decide (c ≤ 57) = false := decide_eq_false (by omega)
        have f9 : (c == 58) = false := beq_eq_false_iff_ne.2 (by omega)
        have f10 : decide (c ≤ 63) = false := decide_eq_false (by omega)
        have f11 : (c == 64) = false := beq_eq_false_iff_ne.2 (by omega)
        have f12 : decide (c ≤ 90) = false := decide_eq_false (by omega)
        have f13 : decide (c ≤ 95) = false := decide_eq_false (by omega)
        have f14 : (c == 96) = false := beq_eq_false_iff_ne.2 (by omega)
        have f15 : decide (c ≤ 122) = true := decide_eq_true (by omega)
        obtain ⟨hq0, hq1⟩ := hq
        go_wp2_with (first | ((with_reducible refine gate_builtin (b := .append) (xs := #[.tmp 132, .tmp 133]) rfl ?_); at_builtin; refine print_append_num (w0 := w) w.heap.size rfl (.tmp 132) (.tmp 133) 22 5 .u8 1 rfl Tryz.underlying22 F.info5 (by decide) _ _ _ rfl rfl HO.out HB.out HB.out.size ?aL ?_; (case aL => (have := HLEN.out; (try simp only [List.length_append, List.length_cons, List.length_nil]); omega)); intro v w1 ho hb hg hat; have n0_ := Aside0.mk ho; have n1_ := Aside0.mk hb; clear HO HB; have HO := n0_; have HB := n1_; clear n0_ n1_ ho hb hg; (try clear hat)) | ((with_reducible refine gate_builtin (b := .append) (xs := #[.tmp 135, .tmp 139]) rfl ?_); at_builtin; refine print_append_num (w0 := w) w.heap.size rfl (.tmp 135) (.tmp 139) 22 5 .u8 1 rfl Tryz.underlying22 F.info5 (by decide) _ _ _ rfl rfl HO.out HB.out HB.out.size ?aL ?_; (case aL => (have := HLEN.out; (try simp only [List.length_append, List.length_cons, List.length_nil]); omega)); intro v w1 ho hb hg hat; have n0_ := Aside0.mk ho; have n1_ := Aside0.mk hb; clear HO HB; have HO := n0_; have HB := n1_; clear n0_ n1_ ho hb hg; (try clear hat)))
        go_roundw
        case rel => exact ⟨i + 1, by omega, by go_num, ⟨by rw [HX.out, HEXT.out]; have := HO.out; simpa using this⟩, HB⟩
        case measure => simp [intOf]; omega
      · have hext : ext93 c = [98, 80 + c - 123] := by unfold ext93; rw [if_neg (by omega), if_neg (by omega), if_neg (by omega), if_neg (by omega), if_neg (by omega), if_neg (by omega), if_neg (by omega), if_neg (by omega), if_neg (by omega), if_neg (by omega), if_neg (by omega), if_neg (by omega), if_neg (by omega), if_neg (by omega), if_neg (by omega), if_neg (by omega)]
        have HEXT := Aside0.mk hext
        clear hext
        have f0 : (c == 0) = false := beq_eq_false_iff_ne.2 (by omega)
        have f1 : decide (c ≤ 26) = false := decide_eq_false (by omega)
        have f2 : decide (c ≤ 31) = false := decide_eq_false (by omega)
        have f3 : (c == 32) = false := beq_eq_false_iff_ne.2 (by omega)
        have f4 : (c == 36) = false := beq_eq_false_iff_ne.2 (by omega)
        have f5 : (c == 37) = false := beq_eq_false_iff_ne.2 (by omega)
        have f6 : (c == 43) = false := beq_eq_false_iff_ne.2 (by omega)
        have f7 : decide (c ≤ 44) = false := decide_eq_false (by omega)
        have f8 : decide (c ≤ 57) = false := decide_eq_false (by omega)
        have f9 : (c == 58) = false := beq_eq_false_iff_ne.2 (by omega)
        have f10 : decide (c ≤ 63) = false := decide_eq_false (by omega)
        have f11 : (c == 64) = false := beq_eq_false_iff_ne.2 (by omega)
        have f12 : decide (c ≤ 90) = false := decide_eq_false (by omega)
        have f13 : decide (c ≤ 95) = false := decide_eq_false (by omega)
        have f14 : (c == 96) = false := beq_eq_false_iff_ne.2 (by omega)
        have f15 : decide (c ≤ 122) = false := decide_eq_false (by omega)
        have f16 : decide (c ≤ 127) = true := decide_eq_true (by omega)
        obtain ⟨hq0, hq1⟩ := hq
        go_wp2_with (first | ((with_reducible refine gate_builtin (b := .append) (xs := #[.tmp 143, .tmp 144]) rfl ?_); at_builtin; refine print_append_num (w0 := w) w.heap.size rfl (.tmp 143) (.tmp 144) 22 5 .u8 1 rfl Tryz.underlying22 F.info5 (by decide) _ _ _ rfl rfl HO.out HB.out HB.out.size ?aL ?_; (case aL => (have := HLEN.out; (try simp only [List.length_append, List.length_cons, List.length_nil]); omega)); intro v w1 ho hb hg hat; have n0_ := Aside0.mk ho; have n1_ := Aside0.mk hb; clear HO HB; have HO := n0_; have HB := n1_; clear n0_ n1_ ho hb hg; (try clear hat)) | ((with_reducible refine gate_builtin (b := .append) (xs := #[.tmp 146, .tmp 150]) rfl ?_); at_builtin; refine print_append_num (w0 := w) w.heap.size rfl (.tmp 146) (.tmp 150) 22 5 .u8 1 rfl Tryz.underlying22 F.info5 (by decide) _ _ _ rfl rfl HO.out HB.out HB.out.size ?aL ?_; (case aL => (have := HLEN.out; (try simp only [List.length_append, List.length_cons, List.length_nil]); omega)); intro v w1 ho hb hg hat; have n0_ := Aside0.mk ho; have n1_ := Aside0.mk hb; clear HO HB; have HO := n0_; have HB := n1_; clear n0_ n1_ ho hb hg; (try clear hat)))
        go_roundw
        case rel => exact ⟨i + 1, by omega, by go_num, ⟨by rw [HX.out, HEXT.out]; have := HO.out; simpa using this⟩, HB⟩
        case measure => simp [intOf]; omega
    · obtain rfl : i = n := by omega
      have hcv := own_string (P := Tryz.prog) Tryz.underlying22 Tryz.underlying5 Tryz.underlying9 HO.out
      go_wp2
      go_ret2
      exact ⟨rfl, HB.out⟩

/-! ### Rows of modules -/
/-- Runs of modules, in turns of two colours. -/
def bars (c : Bool) : List Int → List Bool
  | [] => []
  | n :: ns => List.replicate n.toNat c ++ bars (!c) ns
/-- A row whose first modules are ys. -/
def put {α : Type} (xs ys : List α) : List α := ys ++ xs.drop ys.length
theorem put_length {α : Type} (xs ys : List α) (h : ys.length ≤ xs.length) : (put xs ys).length = xs.length := by simp [put]; omega
theorem put_set {α : Type} (xs ys : List α) (v : α) (h : ys.length < xs.length) : (put xs ys).set ys.length v = put xs (ys ++ [v]) := by
  unfold put
  rw [List.set_append_right _ _ (Nat.le_refl _), Nat.sub_self, List.drop_eq_getElem_cons h, List.set_cons_zero]
  simp
theorem put_all {α : Type} (xs ys : List α) (h : ys.length = xs.length) : put xs ys = ys := by simp [put, h]
theorem put_nil {α : Type} (xs : List α) : put xs [] = xs := by simp [put]

theorem app_in (xs : List Bool) (c : Bool) (num len : Int) (ps : List Int) (plen idx : Int) (hX : xs.length ≤ 1000000000) (r : Int × List Bool) :
    ∀ (d : Nat) (ys : List Bool) (j : Int), 0 ≤ j → len - j = d → (ys.length : Int) + d ≤ xs.length → len ≤ 1000000 →
      Ev (fun k => F.oned_onedWriter_appendPattern.l0 k (put xs (ys ++ List.replicate d c)) (ys.length + d) (!c) (wrap64 (num + len)) ps plen (wrap64 (idx + 1))) r →
      Ev (fun k => F.oned_onedWriter_appendPattern.l1 k (put xs ys) ys.length c num len j ps plen idx) r := by
  intro d
  induction d with
  | zero =>
    intro ys j h0 hd hl hlen h
    refine Ev.step (fun k => ?_) h
    rw [F.oned_onedWriter_appendPattern.l1, if_neg (by omega)]
    simp
  | succ d ih =>
    intro ys j h0 hd hl hlen h
    have hpl := put_length xs ys (by omega)
    refine Ev.step (f := fun k => F.oned_onedWriter_appendPattern.l1 k (put xs (ys ++ [c])) ((ys ++ [c]).length : Nat) c num len (j + 1) ps plen idx) (fun k => ?_) ?_
    · rw [F.oned_onedWriter_appendPattern.l1, if_pos (by omega), if_pos (by omega), if_pos (by rw [hpl]; omega)]
      rw [Int.toNat_natCast, put_set _ _ _ (by omega), show wrap64 ((ys.length : Int) + 1) = ((ys ++ [c]).length : Nat) by simp; unfold wrap64; omega, show wrap64 (j + 1) = j + 1 by unfold wrap64; omega]
    · refine ih (ys ++ [c]) (j + 1) (by omega) (by omega) (by simp; omega) hlen ?_
      have e : ys ++ [c] ++ List.replicate d c = ys ++ List.replicate (d + 1) c := by simp [List.replicate_succ]
      rw [e]
      simp only [List.length_append, List.length_cons, List.length_nil]
      have e2 : (((ys.length + (0 + 1) : Nat) : Int) + (d : Int)) = (ys.length : Int) + ((d + 1 : Nat) : Int) := by omega
      rw [e2]
      exact h

theorem app_out (xs : List Bool) (ps : List Int) (hX : xs.length ≤ 1000000000) (hp : ∀ p ∈ ps, 0 ≤ p ∧ p ≤ 1000000) :
    ∀ (qs : List Int) (done : List Int) (ys : List Bool) (c : Bool) (num : Int), ps = done ++ qs → ys.length + (bars c qs).length ≤ xs.length → ps.length ≤ 1000000 → 0 ≤ num → num + (bars c qs).length ≤ 1000000000 →
      Ev (fun k => F.oned_onedWriter_appendPattern.l0 k (put xs ys) ys.length c num ps ps.length done.length) (num + (bars c qs).length, put xs (ys ++ bars c qs)) := by
  intro qs
  induction qs with
  | nil =>
    intro done ys c num he hl hpl h0 hn
    refine Ev.step (f := fun _ => some (num, put xs ys)) (fun k => ?_) ?_
    · rw [F.oned_onedWriter_appendPattern.l0, if_neg (by rw [he]; simp)]
    · simpa [bars] using Ev.now (num, put xs ys)
  | cons q qs ih =>
    intro done ys c num he hl hpl h0 hn
    have hq := hp q (by rw [he]; simp)
    have hlen : (bars c (q :: qs)).length = q.toNat + (bars (!c) qs).length := by simp [bars]
    have hlt : (done.length : Int) < ps.length := by rw [he]; simp; omega
    have hrd : rd ps done.length = q := by simp [rd, he]
    refine Ev.step (f := fun k => F.oned_onedWriter_appendPattern.l1 k (put xs ys) ys.length c num q 0 ps ps.length done.length) (fun k => ?_) ?_
    · rw [F.oned_onedWriter_appendPattern.l0, if_pos hlt, if_pos (by omega), if_pos hlt, hrd]
    · refine app_in xs c num q ps ps.length done.length hX _ q.toNat ys 0 (by omega) (by omega) (by omega) (by omega) ?_
      have := ih (done ++ [q]) (ys ++ List.replicate q.toNat c) (!c) (num + q) (by simp [he]) (by simp; omega) hpl (by omega) (by omega)
      rw [show wrap64 (num + q) = num + q by unfold wrap64; omega, show wrap64 ((done.length : Int) + 1) = ((done ++ [q]).length : Nat) by simp; unfold wrap64; omega]
      have e1 : (ys.length : Int) + (q.toNat : Int) = ((ys ++ List.replicate q.toNat c).length : Nat) := by simp
      rw [e1]
      have e2 : num + q + ((bars (!c) qs).length : Int) = num + ((bars c (q :: qs)).length : Int) := by rw [hlen]; omega
      rw [e2] at this
      have e3 : ys ++ List.replicate q.toNat c ++ bars (!c) qs = ys ++ bars c (q :: qs) := by simp [bars]
      rw [e3] at this
      exact this

/-- Of what was there just the block g may have turned. -/
structure Upd (w w' : World) (g : Nat) : Prop where
  os : w'.os = w.os
  tape : w'.tape = w.tape
  output : w'.output = w.output
  size : w.heap.size ≤ w'.heap.size
  block : ∀ k, k < w.heap.size → k ≠ g → w'.heap[k]? = w.heap[k]?
theorem Upd.refl (w : World) (g : Nat) : Upd w w g := ⟨rfl, rfl, rfl, Nat.le_refl _, fun _ _ _ => rfl⟩
theorem Upd.trans {a b c : World} {g : Nat} (h : Upd a b g) (k : Upd b c g) : Upd a c g := ⟨k.os.trans h.os, k.tape.trans h.tape, k.output.trans h.output, Nat.le_trans h.size k.size, fun i hi hn => (k.block i (Nat.lt_of_lt_of_le hi h.size) hn).trans (h.block i hi hn)⟩
theorem Upd.of_below {w w' : World} (g : Nat) (h : Below w.heap.size w w') : Upd w w' g := ⟨h.os, h.tape, h.output, h.size, fun k hk _ => h.block k hk⟩
theorem Upd.of_turn {w w' : World} {g : Nat} (h : Turn w w' g) : Upd w w' g := ⟨h.os, h.tape, h.output, Nat.le_of_eq h.size.symm, fun k _ hn => h.block k hn⟩
theorem Upd.blk {w w' : World} {g k : Nat} {t : TypeId} {cs : Array Value} (h : Upd w w' g) (hb : Blk w k t cs) (hne : k ≠ g) : Blk w' k t cs := (h.block k hb.lt hne).trans hb
theorem Upd.below {w w' : World} {g B : Nat} (h : Upd w w' g) (hB : B ≤ g) (hs : B ≤ w.heap.size) : Below B w w' := ⟨h.os, h.tape, h.output, h.size, fun k hk => h.block k (by omega) (by omega)⟩

theorem R_of_blk {w : World} {g N : Nat} {xs : List Bool} (h : Blk w g 4 (bools xs).toArray) (hN : xs.length = N) (hm : N ≤ 1000000000) {base : Nat} (hb : base ≤ g) : Kd.R Kd.bool 4 w base (fun k => k = g) (.slice (some ⟨g, 0, none⟩) N N) xs := by
  refine Kd.R_of_own (enc := Value.bool) (h1 := fun _ => rfl) ⟨by simp [encs], .inr ⟨g, N, _, by rw [hN], hb, h, by omega, by unfold maxLen; omega, by simp [bools, hN], ?_⟩⟩ (fun k hk => ?_)
  · rw [Nat.mul_one, List.toList_toArray]
    exact List.take_of_length_le (by simp [bools])
  · simpa [Value.ownBlock] using hk.symm
theorem blk_of_R {w : World} {g N base : Nat} {xs : List Bool} {ok : Nat → Prop} (h : Kd.R Kd.bool 4 w base ok (.slice (some ⟨g, 0, none⟩) N N) xs) (h0 : 0 < N) : Blk w g 4 (bools xs).toArray := by
  obtain ⟨h1, h2 | ⟨g', cap, cur, he, hb, hh, h3, h4, h5, h6⟩⟩ := Kd.own_of_R (enc := Value.bool) (h1 := fun _ => rfl) h
  · simp at h2
  · injection he with e1 e2 e3
    injection e1 with e1
    injection e1 with e1
    subst e1 e3
    have e : cur = (bools xs).toArray := by
      apply Array.toList_inj.1
      rw [← e2, Nat.mul_one, List.take_of_length_le (by rw [Array.length_toList, h5]; omega)] at h6
      rw [h6]
      rfl
    rw [← e]
    exact hh

/-- The cells of a row of numbers are none of a row of bools. -/
theorem C_kept {w : World} {gt : Nat} {xs : List Bool} {k : IntKind} {A : Option Addr} {ps : List Int} (hb : Blk w gt 4 (bools xs).toArray) (hC : Kd.C (Kd.int k) w A ps.length ps) (W : World) (hk : Kept w W (fun i => i = gt)) : Kd.C (Kd.int k) W A ps.length ps := by
  have hr := Kd.reads_of_C (enc := Value.int k) (d := (0 : Int)) (h1 := fun _ => rfl) hC
  refine Kd.C_of_reads (enc := Value.int k) (d := (0 : Int)) (h1 := fun _ => rfl) ⟨rfl, hr.2.1, fun hp => ?_⟩
  obtain ⟨ad, rfl, hc⟩ := hr.2.2 hp
  refine ⟨ad, rfl, fun j hj => ?_⟩
  have h1 := hc j hj
  have hlt := World.block_lt_of_cell? w _ h1
  by_cases e : (ad.add j).block = gt
  · exfalso
    have hbk : w.heap[(ad.add j).block]? = some (.cells (bools xs).toArray 4 (0, 0)) := by rw [e]; exact hb
    unfold World.cell? at h1
    rw [hbk] at h1
    simp only at h1
    split at h1
    · cases h1
    · simp only [bools, List.getElem?_toArray, List.getElem?_map] at h1
      cases hx : xs[(ad.add j).off]? with
      | none => rw [hx] at h1; simp at h1
      | some v => rw [hx] at h1; simp at h1
  · exact (World.cell?_of_block (w := w) (hk.2 _ hlt e)).trans h1

/-- The world without its blocks from g on. -/
def cutAt (w : World) (g : Nat) : World := { w with heap := w.heap.extract 0 g }
theorem cut_size (w : World) (g : Nat) (h : g ≤ w.heap.size) : (cutAt w g).heap.size = g := by simp [cutAt]; omega
theorem cut_below (w : World) (g : Nat) (h : g ≤ w.heap.size) : Below (cutAt w g).heap.size (cutAt w g) w := by
  refine ⟨rfl, rfl, rfl, by rw [cut_size w g h]; exact h, fun k hk => ?_⟩
  rw [cut_size w g h] at hk
  show _ = (w.heap.extract 0 g)[k]?
  rw [Array.getElem?_extract]
  simp [hk]
  intro h1
  omega

theorem appendPat (w : World) (gt N : Nat) (xs ys : List Bool) (A : Option Addr) (c : Nat) (ps : List Int) (col : Bool) (hb : Blk w gt 4 (bools (put xs ys)).toArray) (hN : xs.length = N) (h0 : 0 < N) (hm : N ≤ 1000000000)
    (m : Nat) (hpm : ps.length = m) (hC : Kd.C (Kd.int .i64) w A m ps) (hc : m ≤ c) (hp : ∀ p ∈ ps, 0 ≤ p ∧ p ≤ 1000000) (hpl : m ≤ 1000000) (hl : ys.length + (bars col ps).length ≤ N) :
    Calls Tryz.prog 145 #[.slice (some ⟨gt, 0, none⟩) N N, .int .i64 ys.length, .slice A m c, .bool col] w fun e w' => e = .returned (.int .i64 ((bars col ps).length : Nat)) ∧ Blk w' gt 4 (bools (put xs (ys ++ bars col ps))).toArray ∧ Upd w w' gt := by
  subst hpm
  obtain ⟨k, hk⟩ := (app_out xs ps (by omega) hp ps [] ys col 0 rfl (by omega) hpl (by omega) (by omega)).rounds
  have hpn := put_length xs ys (by omega)
  have hbl : gt ≤ w.heap.size := Nat.le_of_lt hb.lt
  have hr := R_of_blk hb (by rw [hpn, hN]) hm (base := (cutAt w gt).heap.size) (by rw [cut_size w gt hbl]; omega)
  refine (F.oned_onedWriter_appendPattern.calls k (fun i => i = gt) _ _ _ A c ps col _ _ (cutAt w gt) w (cut_below w gt hbl) hr (C_kept hb hC) hc (by
    unfold F.oned_onedWriter_appendPattern.f
    exact hk)).mono ?_
  rintro e w' ⟨rfl, h1, h2, h3⟩
  refine ⟨by simp, blk_of_R h1 h0, ⟨h2.os, h2.tape, h2.output, h3.1, fun i hi hn => h3.2 i hi hn⟩⟩
/-- The same, the place and the answer as they are spelled. -/
theorem appendPat' (w : World) (gt N : Nat) (xs ys : List Bool) (A : Option Addr) (c : Nat) (ps : List Int) (col : Bool) (pos r : Int) (hpos : (ys.length : Int) = pos) (hr : ((bars col ps).length : Int) = r) (hb : Blk w gt 4 (bools (put xs ys)).toArray) (hN : xs.length = N) (h0 : 0 < N) (hm : N ≤ 1000000000)
    (m : Nat) (hpm : ps.length = m) (hC : Kd.C (Kd.int .i64) w A m ps) (hc : m ≤ c) (hp : ∀ p ∈ ps, 0 ≤ p ∧ p ≤ 1000) (hpl : m ≤ 1000000) (hl : pos + r ≤ N) :
    Calls Tryz.prog 145 #[.slice (some ⟨gt, 0, none⟩) N N, .int .i64 pos, .slice A m c, .bool col] w fun e w' => e = .returned (.int .i64 r) ∧ Blk w' gt 4 (bools (put xs (ys ++ bars col ps))).toArray ∧ Upd w w' gt := by
  subst hpos hr
  exact appendPat w gt N xs ys A c ps col hb hN h0 hm m hpm hC hc (fun p h => by have := hp p h; omega) hpl (by omega)

/-! ### Where a byte stands in a string -/
theorem zz_run (s : ByteArray) (b : UInt8) (hs : s.size ≤ 1000) (r : Int) (n : Nat) (hn : n ≤ s.size) (hf : ∀ i (h : i < n), s.data.toList.getD i 0 ≠ b) (hr : if n < s.size then s.data.toList.getD n 0 = b ∧ r = n else r = -1) :
    ∀ (d i : Nat), i + d = n → Ev (fun k => F.oned_zzIndex.l0 k s ⟨#[b]⟩ i) r := by
  have hx : ∀ i : Nat, i < s.size → ((s.extract i (i + 1)).toList = (⟨#[b]⟩ : ByteArray).toList ↔ s.data.toList.getD i 0 = b) := by
    intro i hi
    have hl : i < s.data.toList.length := by rw [data_length]; exact hi
    rw [ba_toList, ba_toList, Lib.extract_data, show i + 1 - i = 1 by omega, List.drop_eq_getElem_cons hl, List.getD_eq_getElem?_getD, List.getElem?_eq_getElem hl]
    simp
  have hone : ((⟨#[b]⟩ : ByteArray).size : Int) = 1 := rfl
  intro d
  induction d with
  | zero =>
    intro i hi
    obtain rfl : i = n := by omega
    refine Ev.step (f := fun _ => some r) (fun k => ?_) (Ev.now r)
    rw [F.oned_zzIndex.l0, hone, show wrap64 ((i : Int) + 1) = ((i + 1 : Nat) : Int) by unfold wrap64; omega]
    by_cases hlt : i < s.size
    · rw [if_pos hlt] at hr
      rw [if_pos (by omega), if_pos (by omega), if_pos (by omega), Int.toNat_natCast, Int.toNat_natCast, if_pos ((hx i hlt).2 hr.1), hr.2]
    · rw [if_neg hlt] at hr
      rw [if_neg (by omega), hr]
  | succ d ih =>
    intro i hi
    refine Ev.step (fun k => ?_) (ih (i + 1) (by omega))
    rw [F.oned_zzIndex.l0, hone, show wrap64 ((i : Int) + 1) = ((i + 1 : Nat) : Int) by unfold wrap64; omega, if_pos (by omega), if_pos (by omega), if_pos (by omega), Int.toNat_natCast, Int.toNat_natCast, if_neg (fun h => hf i (by omega) ((hx i (by omega)).1 h))]
theorem zzAt (w : World) (s : ByteArray) (b : UInt8) (hs : s.size ≤ 1000) (r : Int) (n : Nat) (hn : n ≤ s.size) (hf : ∀ i (h : i < n), s.data.toList.getD i 0 ≠ b) (hr : if n < s.size then s.data.toList.getD n 0 = b ∧ r = n else r = -1) :
    Calls Tryz.prog 142 #[.string s, .string ⟨#[b]⟩] w fun e w' => e = .returned (.int .i64 r) ∧ Below w.heap.size w w' := by
  obtain ⟨k, hk⟩ := (zz_run s b hs r n hn hf hr n 0 (by omega)).rounds
  refine (F.oned_zzIndex.calls k s ⟨#[b]⟩ r w hk).mono ?_
  rintro e w' ⟨rfl, h⟩
  exact ⟨rfl, h.below⟩

/-! ### Rows of numbers of one's own -/
theorem RI_of_blk {w : World} {g N : Nat} {xs : List Int} {k : IntKind} {e : TypeId} (h : Blk w g e (nums k xs).toArray) (hN : xs.length = N) (hm : N ≤ 1000000000) {base : Nat} (hb : base ≤ g) : Kd.R (Kd.int k) e w base (fun i => i = g) (.slice (some ⟨g, 0, none⟩) N N) xs := by
  refine Kd.R_of_own (enc := Value.int k) (h1 := fun _ => rfl) ⟨by simp [encs], .inr ⟨g, N, _, by rw [hN], hb, h, by omega, by unfold maxLen; omega, by simp [nums, hN], ?_⟩⟩ (fun i hk => ?_)
  · rw [Nat.mul_one, List.toList_toArray]
    exact List.take_of_length_le (by simp [nums])
  · simpa [Value.ownBlock] using hk.symm
theorem blkI_of_R {w : World} {g N base : Nat} {xs : List Int} {ok : Nat → Prop} {k : IntKind} {e : TypeId} (h : Kd.R (Kd.int k) e w base ok (.slice (some ⟨g, 0, none⟩) N N) xs) (h0 : 0 < N) : Blk w g e (nums k xs).toArray := by
  obtain ⟨h1, h2 | ⟨g', cap, cur, he, hb, hh, h3, h4, h5, h6⟩⟩ := Kd.own_of_R (enc := Value.int k) (h1 := fun _ => rfl) h
  · simp at h2
  · injection he with e1 e2 e3
    injection e1 with e1
    injection e1 with e1
    subst e1 e3
    have e : cur = (nums k xs).toArray := by
      apply Array.toList_inj.1
      rw [← e2, Nat.mul_one, List.take_of_length_le (by rw [Array.length_toList, h5]; omega)] at h6
      rw [h6]
      rfl
    rw [← e]
    exact hh

/-! ### The widths of a character of Code 39 -/
def w9at (a : Int) (i : Nat) : Int := if Go.bits .and .i64 a (shl .i64 1 (IntKind.u64.wrap (wrap64 (8 - (i : Int))))) = 0 then 1 else 2
def w9 (a : Int) : List Int := (List.range 9).map (w9at a)
theorem w9_length (a : Int) : (w9 a).length = 9 := by simp [w9]
theorem w9_pos (a : Int) : ∀ p ∈ w9 a, 0 ≤ p ∧ p ≤ 1000 := by
  intro p hp
  simp only [w9, List.mem_map] at hp
  obtain ⟨i, _, rfl⟩ := hp
  unfold w9at; split <;> omega
theorem toInts_run (a : Int) : ∀ (d i : Nat) (xs : List Int), i + d = 9 → xs.length = 9 → xs.take i = (w9 a).take i → Ev (fun k => F.oned_code39ToIntArray.l0 k a xs i) (w9 a) := by
  intro d
  induction d with
  | zero =>
    intro i xs hi hx ht
    obtain rfl : i = 9 := by omega
    have : xs = w9 a := by
      rw [List.take_of_length_le (by omega), List.take_of_length_le (by rw [w9_length]; omega)] at ht
      exact ht
    rw [← this]
    refine Ev.step (f := fun _ => some xs) (fun k => ?_) (Ev.now xs)
    rw [F.oned_code39ToIntArray.l0, if_neg (by omega)]
  | succ d ih =>
    intro i xs hi hx ht
    have hu : 0 ≤ IntKind.u64.wrap (wrap64 (8 - (i : Int))) := by
      simp only [IntKind.wrap_u64]
      omega
    have h2 := ih (i + 1) (xs.set i (w9at a i)) (by omega) (by simpa using hx) (by
      rw [List.take_succ_eq_append_getElem (by simp; omega), List.take_succ_eq_append_getElem (by rw [w9_length]; omega), List.take_set_of_le (Nat.le_refl _), ht]
      simp [w9])
    refine Ev.step (fun k => ?_) h2
    rw [F.oned_code39ToIntArray.l0, if_pos (by omega), if_pos hu, show wrap64 ((i : Int) + 1) = ((i + 1 : Nat) : Int) by unfold wrap64; omega, Int.toNat_natCast]
    unfold w9at
    split
    · rw [if_pos (by omega), if_pos (by omega)]
    · rw [if_pos (by omega), if_pos (by omega)]
theorem toInts (w : World) (g : Nat) (a : Int) (xs : List Int) (hb : Blk w g 3 (nums .i64 xs).toArray) (hx : xs.length = 9) :
    Calls Tryz.prog 144 #[.int .i64 a, .slice (some ⟨g, 0, none⟩) 9 9] w fun e w' => e = .returned (.tuple #[]) ∧ Blk w' g 3 (nums .i64 (w9 a)).toArray ∧ Upd w w' g := by
  obtain ⟨k, hk⟩ := (toInts_run a 9 0 xs (by omega) hx (by simp)).rounds
  have hbl : g ≤ w.heap.size := Nat.le_of_lt hb.lt
  have hr := RI_of_blk hb hx (by omega) (base := (cutAt w g).heap.size) (by rw [cut_size w g hbl]; omega)
  refine (F.oned_code39ToIntArray.calls k a (fun i => i = g) _ xs _ (cutAt w g) w (cut_below w g hbl) hr hk).mono ?_
  rintro e w' ⟨rfl, h1, h2, h3⟩
  exact ⟨rfl, blkI_of_R h1 (by omega), ⟨h2.os, h2.tape, h2.output, h3.1, fun i hi hn => h3.2 i hi hn⟩⟩

theorem mkInts (n : Nat) (h : n ≤ 1000000000) (w : World) : (Instr.makeSlice 40 (.int .i64 (n : Int)) (.int .i64 (n : Int))).run Tryz.prog w = .ok (.slice (some ⟨w.heap.size, 0, none⟩) n n) (w.alloc (.cells (nums .i64 (List.replicate n 0)).toArray 3)) := by
  obtain ⟨i, hi, hz, hs, hb⟩ := info_parts F.info3
  have := run_make_rowN (P := Tryz.prog) 40 3 i (.int .i64 0) Tryz.underlying40 hi hz .i64 .i64 n n (Nat.le_refl _) (by rw [hb]; omega) (by omega) w
  have e : madeCells (Value.int .i64 0).cells (n * 1) = (nums .i64 (List.replicate n 0)).toArray := by
    apply Array.toList_inj.1
    rw [Nat.mul_one]
    exact (toList_madeCells_one _ _).trans (by simp [nums])
  rw [this, hs, e]
def z9 : List Int := List.replicate 9 0
theorem make_9 (w : World) : (Instr.makeSlice 40 (.int .i64 9) (.int .i64 9)).run Tryz.prog w = .ok (.slice (some ⟨w.heap.size, 0, none⟩) 9 9) (w.alloc (.cells (nums .i64 z9).toArray 3)) := mkInts 9 (by omega) w
/-- A number of a table that is just made. -/
theorem tab_cell {w : World} {base : Nat} {ok : Nat → Prop} {v : Value} {xs : List Int} (h : Kd.R (Kd.int .i64) 3 w base ok v xs) (n : Nat) (hn : n < xs.length) : ∃ ad c, v = .slice (some ad) xs.length c ∧ xs.length ≤ c ∧ w.cell? (ad.add n) = some (.int .i64 (xs.getD n 0)) := by
  obtain ⟨A, c, rfl, hc, hC⟩ := Kd.R_reads h
  obtain ⟨ad, rfl, h1⟩ := Kd.at_int hC (n : Int) (by omega) (by omega)
  exact ⟨ad, c, rfl, hc, h1⟩

/-! ### Code 39's encoder -/
def sg39 : ByteArray := ⟨#[48, 49, 50, 51, 52, 53, 54, 55, 56, 57, 65, 66, 67, 68, 69, 70, 71, 72, 73, 74, 75, 76, 77, 78, 79, 80, 81, 82, 83, 84, 85, 86, 87, 88, 89, 90, 45, 46, 32, 36, 47, 43, 37]⟩
def enc39 : List Int := [52, 289, 97, 352, 49, 304, 112, 37, 292, 100, 265, 73, 328, 25, 280, 88, 13, 268, 76, 28, 259, 67, 322, 19, 274, 82, 7, 262, 70, 22, 385, 193, 448, 145, 400, 208, 133, 388, 196, 168, 162, 138, 42]
def chr39 (n : Nat) : List Bool := bars true (w9 (enc39.getD n 0)) ++ [false]
def star39 : List Bool := bars true (w9 148)
def body39 (ns : List Nat) : List Bool := ns.flatMap chr39
def code39 (ns : List Nat) : List Bool := star39 ++ [false] ++ body39 ns ++ star39
theorem chr39_length (n : Nat) (h : n < 43) : (chr39 n).length = 13 := by
  have : ∀ n : Fin 43, (chr39 n).length = 13 := by decide +kernel
  exact this ⟨n, h⟩
theorem star39_length : star39.length = 12 := by decide +kernel
theorem body39_length : ∀ (ns : List Nat), (∀ n ∈ ns, n < 43) → (body39 ns).length = 13 * ns.length
  | [], _ => rfl
  | n :: r, h => by
    have ih := body39_length r (fun d hd => h d (by simp [hd]))
    unfold body39 at ih ⊢
    rw [List.flatMap_cons, List.length_append, ih, chr39_length n (h n (by simp)), List.length_cons]
    omega
/-- A text of Code 39's characters. -/
def Is39 (t : ByteArray) (ns : List Nat) : Prop := t.data.toList = ns.map (fun n => sg39.data.toList.getD n 0) ∧ ∀ n ∈ ns, n < 43
theorem is39_get {t : ByteArray} {ns : List Nat} (h : Is39 t ns) (i : Nat) (hi : i < t.size) : ∃ n, n < 43 ∧ ns.getD i 0 = n ∧ i < ns.length ∧ t[i]'hi = sg39.data.toList.getD n 0 := by
  have hl : t.data.toList.length = ns.length := by rw [h.1, List.length_map]
  have hd : i < ns.length := by rw [← hl, data_length]; exact hi
  refine ⟨ns[i], h.2 _ (List.getElem_mem hd), by rw [List.getD_eq_getElem?_getD, List.getElem?_eq_getElem hd]; rfl, hd, ?_⟩
  have e : t[i]'hi = t.data.toList[i]'(by rw [data_length]; exact hi) := rfl
  rw [e]
  obtain ⟨h1, h2⟩ := h
  simp only [h1, List.getElem_map]
theorem sg39_at (w : World) (n : Nat) (hn : n < 43) : Calls Tryz.prog 142 #[.string sg39, .string ⟨#[sg39.data.toList.getD n 0]⟩] w fun e w' => e = .returned (.int .i64 n) ∧ Below w.heap.size w w' := by
  refine zzAt w sg39 _ (by decide) n n (by have : sg39.size = 43 := rfl; omega) ?_ ?_
  · have : ∀ n : Fin 43, ∀ i : Fin 43, i.val < n.val → sg39.data.toList.getD i 0 ≠ sg39.data.toList.getD n 0 := by decide +kernel
    exact fun i hi => this ⟨n, hn⟩ ⟨i, by omega⟩ hi
  · rw [if_pos (by have : sg39.size = 43 := rfl; omega)]
    exact ⟨rfl, rfl⟩
/-- string(b) of a byte below 128. -/
theorem conv_byte (b : UInt8) (h : b.toNat < 128) (w : World) : (Go.convert 5 9 (.int .u8 (b.toNat : Int))).run Tryz.prog w = .ok (.string ⟨#[b]⟩) w := by
  rw [run_convert_int_string w 5 9 .u8 _ (by kernel_rfl) Tryz.underlying9]
  have hv : Utf8.valid (b.toNat : Int) = true := by unfold Utf8.valid; simp; omega
  have : Utf8.encode (b.toNat : Int) = ⟨#[b]⟩ := by
    unfold Utf8.encode
    rw [if_pos hv]
    simp only [Int.toNat_natCast]
    rw [if_pos h, UInt8.ofNat_toNat]
  rw [this]
theorem sg39_lt (n : Nat) (hn : n < 43) : (sg39.data.toList.getD n 0).toNat < 128 := by
  have : ∀ n : Fin 43, (sg39.data.toList.getD n 0).toNat < 128 := by decide +kernel
  exact this ⟨n, hn⟩

theorem C_9 {w : World} {g : Nat} {a : Int} (h : Blk w g 3 (nums .i64 (w9 a)).toArray) : Kd.C (Kd.int .i64) w (some ⟨g, 0, none⟩) 9 (w9 a) := by
  have := C_nums h (by rw [w9_length]; omega)
  rwa [w9_length] at this
set_option maxHeartbeats 4000000 in
set_option maxRecDepth 100000 in
theorem enc39_calls (w : World) (mv : Value) (text : ByteArray) (ns : List Nat) (n : Nat) (hn : ns.length = n) (hn2 : n ≤ 80) (ht : Is39 text ns) :
    Calls Tryz.prog 140 #[.agg #[], .string text, mv] w fun e w' => ∃ v, e = .returned (.tuple #[v, .nilIface]) ∧ Kd.R Kd.bool 4 w' w.heap.size (fun _ => True) v (code39 ns) ∧ Below w.heap.size w w' := by
  have hsz : text.size = n := by rw [← data_length, ht.1]; simp [hn]
  have hsI : (text.size : Int) = (n : Int) := by omega
  have h80 : decide ((80 : Int) < (n : Int)) = false := decide_eq_false (by omega)
  have HT := Aside0.mk ht
  have HN := Aside0.mk hn
  have hmk9 := make_9
  have hmk := make_bool (25 + 13 * n) (by omega)
  have hmkn : ((25 + 13 * n : Nat) : Int) = 25 + 13 * (n : Int) := by omega
  rw [hmkn] at hmk
  clear hmkn
  have HSZ := Aside0.mk hsz
  clear ht hn hsz
  go_enter Tryz.func140, Tryz.ntmps140
  go_wp2_with fail
  go_loopw [1, 8, 9] (fun tv nv v wr => ∃ j : Nat, j ≤ n ∧ tv = .string text ∧ nv = .int .i64 n ∧ v = .int .i64 j ∧ Aside0 (Below w.heap.size w wr)) (fun _ _ v _ => n - (intOf v).toNat)
  case atStart => exact ⟨0, by omega, rfl, rfl, rfl, ⟨below_alloc (Below.refl _ _) _⟩⟩
  case round =>
    obtain ⟨j, hj, rfl, rfl, rfl, HB⟩ := hrel
    by_cases hlt : j < n
    · have hj1 : j < text.size := by have := HSZ.out; omega
      obtain ⟨c, hc, hcn, hcl, hct⟩ := is39_get HT.out j hj1
      have hcv := conv_byte _ (sg39_lt c hc)
      obtain ⟨cb, hcb⟩ : ∃ cb, sg39.data.toList.getD c 0 = cb := ⟨_, rfl⟩
      rw [hcb] at hct hcv
      have hz := sg39_at wr c hc
      rw [hcb] at hz
      have HZ := Aside0.mk hz
      clear hz hcb hcn hcl
      go_wp2_with fail
      refine (HZ.out).mono ?_
      rintro e w' ⟨rfl, hb⟩
      have HB' := Aside0.mk (HB.out.trans (hb.mono HB.out.size))
      clear hb
      go_wp2
      go_roundw
      case rel => exact ⟨j + 1, by omega, rfl, rfl, by go_num, HB'⟩
      case measure => simp [intOf]; omega
    · have hjn : j = n := by omega
      subst hjn
      go_wp2_with fail
      obtain ⟨w1, hw1⟩ : ∃ w1, (wr.alloc (.cells (nums .i64 z9).toArray 3)).alloc (.cells (bools (List.replicate (25 + 13 * j) false)).toArray 4) = w1 := ⟨_, rfl⟩
      have hgw : Blk w1 wr.heap.size 3 (nums .i64 z9).toArray := by rw [← hw1]; exact Blk.alloc (Blk.new _ _ _) _
      have hgt : Blk w1 (wr.heap.size + 1) 4 (bools (put (List.replicate (25 + 13 * j) false) [])).toArray := by
        rw [← hw1, put_nil]
        have := Blk.new (wr.alloc (.cells (nums .i64 z9).toArray 3)) 4 (bools (List.replicate (25 + 13 * j) false)).toArray
        simpa using this
      have hb1 : Below wr.heap.size wr w1 := by rw [← hw1]; exact below_alloc (below_alloc (Below.refl _ _) _) _
      have hs1 : w1.heap.size = wr.heap.size + 2 := by rw [← hw1]; simp
      obtain ⟨gw, hgwe⟩ : ∃ gw, wr.heap.size = gw := ⟨_, rfl⟩
      rw [hgwe] at hgw hgt hs1
      have HGW := Aside0.mk hgw
      have HGT := Aside0.mk hgt
      have HB1 := Aside0.mk (HB.out.trans (hb1.mono HB.out.size))
      have hge : w.heap.size ≤ gw := by rw [← hgwe]; exact HB.out.size
      have HS1 := Aside0.mk hs1
      rw [hw1, hgwe]
      clear hw1 hgw hgt hb1 hgwe hmk hmk9 hs1
      refine (toInts w1 gw 148 _ HGW.out (by rfl)).mono ?_
      rintro e w2 ⟨rfl, hx2, hu2⟩
      have HGW2 := Aside0.mk hx2
      have HGT2 := Aside0.mk (hu2.blk HGT.out (by omega))
      have HB2 := Aside0.mk (HB1.out.trans (hu2.below hge HB1.out.size))
      have HS2 := Aside0.mk hu2.size
      clear hx2 hu2 HGW HGT
      go_wp2_with fail
      refine (appendPat' w2 (gw + 1) (25 + 13 * j) (List.replicate (25 + 13 * j) false) [] _ _ (w9 148) true 0 12 rfl (by have := star39_length; unfold star39 at this; rw [this]; rfl) HGT2.out (by simp) (by omega) (by omega) 9 (w9_length _) (C_9 HGW2.out) (by omega) (w9_pos _) (by omega) (by omega)).mono ?_
      rintro e w3 ⟨rfl, hx3, hu3⟩
      have HGT3 := Aside0.mk hx3
      have HGW3 := Aside0.mk (hu3.blk HGW2.out (by omega))
      have HB3 := Aside0.mk (HB2.out.trans (hu3.below (by omega) HB2.out.size))
      have HS3 := Aside0.mk (Nat.le_trans HS2.out hu3.size)
      clear hx3 hu3 HGT2 HGW2 HB2
      go_wp2_with fail
      have hbn : Below w3.heap.size w3 (w3.alloc (.cells #[.int .i64 1] 3)) := below_alloc (Below.refl _ _) _
      have hgn : Blk (w3.alloc (.cells #[.int .i64 1] 3)) w3.heap.size 3 (nums .i64 [1]).toArray := Blk.new _ _ _
      obtain ⟨gn, hgne⟩ : ∃ gn, w3.heap.size = gn := ⟨_, rfl⟩
      obtain ⟨w4, hw4⟩ : ∃ w4, w3.alloc (.cells #[.int .i64 1] 3) = w4 := ⟨_, rfl⟩
      have hgt4 := HGT3.out.below hbn HGT3.out.lt
      have hgw4 := HGW3.out.below hbn HGW3.out.lt
      have hb4 := HB3.out.trans (hbn.mono HB3.out.size)
      rw [hw4] at hgn hgt4 hgw4 hb4 ⊢
      rw [hgne] at hgn ⊢
      have hng : gw + 1 < gn := by have := HS3.out; have := HS1.out; omega
      clear hbn hw4 hgne
      have hslt : ([] ++ bars true (w9 148)).length = 12 := by have := star39_length; unfold star39 at this; rw [List.nil_append, this]
      have HGN4 := Aside0.mk hgn
      have HGT4 := Aside0.mk hgt4
      have HGW4 := Aside0.mk hgw4
      have HB4 := Aside0.mk hb4
      have HSLT := Aside0.mk hslt
      clear hgn hgt4 hgw4 hb4 HGT3 HGW3 HB3 hslt
      refine (appendPat' w4 (gw + 1) (25 + 13 * j) (List.replicate (25 + 13 * j) false) ([] ++ bars true (w9 148)) _ _ [1] false 12 1 (by rw [HSLT.out]; rfl) rfl HGT4.out (by simp) (by omega) (by omega) 1 rfl (C_nums HGN4.out (by decide)) (by omega) (by decide) (by omega) (by omega)).mono ?_
      rintro e w5 ⟨rfl, hx5, hu5⟩
      have HGT5 := Aside0.mk hx5
      have HGW5 := Aside0.mk (hu5.blk HGW4.out (by omega))
      have HGN5 := Aside0.mk (hu5.blk HGN4.out (by omega))
      have HB5 := Aside0.mk (HB4.out.trans (hu5.below (by omega) HB4.out.size))
      clear hx5 hu5 HGT4 HGW4 HGN4 HB4
      have hys : [] ++ bars true (w9 148) ++ bars false [1] = star39 ++ [false] := rfl
      rw [hys] at HGT5
      clear hys
      go_wp2
      clear HSLT
      go_loopw [15, 17] (fun pv v wi => ∃ (k : Nat) (p a' : Int), k ≤ j ∧ v = .int .i64 k ∧ pv = .int .i64 p ∧ 0 ≤ p ∧ p ≤ 13 + 13 * (k : Int) ∧ Aside0 (p = 13 + 13 * (k : Int)) ∧ Aside0 (Blk wi gw 3 (nums .i64 (w9 a')).toArray) ∧ Aside0 (Blk wi (gw + 1) 4 (bools (put (List.replicate (25 + 13 * j) false) (star39 ++ [false] ++ body39 (ns.take k)))).toArray) ∧ Aside0 (Blk wi gn 3 (nums .i64 [1]).toArray) ∧ Aside0 (Below w.heap.size w wi)) (fun _ v _ => j - (intOf v).toNat)
      case atStart => exact ⟨0, 13, 148, by omega, rfl, rfl, by omega, by omega, ⟨rfl⟩, HGW5, ⟨by have := HGT5.out; simpa [body39] using this⟩, HGN5, HB5⟩
      case round =>
        obtain ⟨k, p, a', hk, rfl, rfl, hp0, hp1, HP, HW, HG, HNN, HBB⟩ := hrel
        clear HGW5 HGT5 HGN5 HB5
        have hyl : (star39 ++ [false] ++ body39 (ns.take k)).length = 13 + 13 * k := by
          rw [List.length_append, List.length_append, star39_length, body39_length _ (fun d hd => HT.out.2 d (List.mem_of_mem_take hd)), List.length_take, HN.out]
          simp; omega
        have HYL := Aside0.mk hyl
        clear hyl
        by_cases hlk : k < j
        · have hk1 : k < text.size := by have := HSZ.out; omega
          obtain ⟨c, hc, hcn, hcl, hct⟩ := is39_get HT.out k hk1
          have hcv := conv_byte _ (sg39_lt c hc)
          obtain ⟨cb, hcb⟩ : ∃ cb, sg39.data.toList.getD c 0 = cb := ⟨_, rfl⟩
          have HCN := Aside0.mk hcn
          rw [hcb] at hct hcv
          have HCB := Aside0.mk hcb
          clear hcb hcn hcl
          go_wp2_with fail
          have hz := sg39_at wr c hc
          rw [HCB.out] at hz
          refine hz.mono ?_
          rintro e w6 ⟨rfl, hb6⟩
          clear hz
          have HW6 := Aside0.mk (HW.out.below hb6 HW.out.lt)
          have HG6 := Aside0.mk (HG.out.below hb6 HG.out.lt)
          have HN6 := Aside0.mk (HNN.out.below hb6 HNN.out.lt)
          have HB6 := Aside0.mk (HBB.out.trans (hb6.mono HBB.out.size))
          clear hb6 HW HG HNN HBB
          go_wp2_with fail
          refine (F.oned_code39CharacterEncodings.calls enc39 _ rfl).mono ?_
          rintro e w7 ⟨v7, rfl, hr7, hb7⟩
          have HW7 := Aside0.mk (HW6.out.below hb7 HW6.out.lt)
          have HG7 := Aside0.mk (HG6.out.below hb7 HG6.out.lt)
          have HN7 := Aside0.mk (HN6.out.below hb7 HN6.out.lt)
          have HB7 := Aside0.mk (HB6.out.trans (hb7.mono HB6.out.size))
          clear hb7 HW6 HG6 HN6 HB6
          obtain ⟨ad, c7, rfl, hc7, hcell⟩ := tab_cell hr7 c (by have : enc39.length = 43 := rfl; omega)
          rw [show enc39.length = 43 from rfl]
          obtain ⟨av, hav⟩ : ∃ av, enc39.getD c 0 = av := ⟨_, rfl⟩
          rw [hav] at hcell
          have HAV := Aside0.mk hav
          clear hr7 hav hc7
          go_wp2_with fail
          refine (toInts w7 gw av _ HW7.out (w9_length _)).mono ?_
          rintro e w8 ⟨rfl, hx8, hu8⟩
          have HW8 := Aside0.mk hx8
          have HG8 := Aside0.mk (hu8.blk HG7.out (by omega))
          have HN8 := Aside0.mk (hu8.blk HN7.out (by omega))
          have HB8 := Aside0.mk (HB7.out.trans (hu8.below (by omega) HB7.out.size))
          clear hx8 hu8 HW7 HG7 HN7 HB7 hcell
          have hcl13 := chr39_length c hc
          unfold chr39 at hcl13
          rw [HAV.out] at hcl13
          have hb12 : (bars true (w9 av)).length = 12 := by simpa using hcl13
          have HB12 := Aside0.mk hb12
          clear hcl13 hb12
          go_wp2_with fail
          refine (appendPat' w8 (gw + 1) (25 + 13 * j) (List.replicate (25 + 13 * j) false) (star39 ++ [false] ++ body39 (ns.take k)) _ _ (w9 av) true p 12 (by rw [HYL.out, HP.out]; omega) (by rw [HB12.out]; rfl) HG8.out (by simp) (by omega) (by omega) 9 (w9_length _) (C_9 HW8.out) (by omega) (w9_pos _) (by omega) (by omega)).mono ?_
          rintro e w9' ⟨rfl, hx9, hu9⟩
          have HG9 := Aside0.mk hx9
          have HW9 := Aside0.mk (hu9.blk HW8.out (by omega))
          have HN9 := Aside0.mk (hu9.blk HN8.out (by omega))
          have HB9 := Aside0.mk (HB8.out.trans (hu9.below (by omega) HB8.out.size))
          clear hx9 hu9 HW8 HG8 HN8 HB8
          go_wp2_with fail
          refine (appendPat' w9' (gw + 1) (25 + 13 * j) (List.replicate (25 + 13 * j) false) (star39 ++ [false] ++ body39 (ns.take k) ++ bars true (w9 av)) _ _ [1] false (p + 12) 1 (by rw [List.length_append, HYL.out, HB12.out, HP.out]; omega) rfl HG9.out (by simp) (by omega) (by omega) 1 rfl (C_nums HN9.out (by decide)) (by omega) (by decide) (by omega) (by omega)).mono ?_
          rintro e w10 ⟨rfl, hx10, hu10⟩
          have HG10 := Aside0.mk hx10
          have HW10 := Aside0.mk (hu10.blk HW9.out (by omega))
          have HN10 := Aside0.mk (hu10.blk HN9.out (by omega))
          have HB10 := Aside0.mk (HB9.out.trans (hu10.below (by omega) HB9.out.size))
          clear hx10 hu10 HW9 HG9 HN9 HB9
          go_wp2
          go_roundw
          case rel => exact ⟨k + 1, p + 12 + 1, av, by omega, by go_num, rfl, by omega, by omega, ⟨by rw [HP.out]; omega⟩, HW10, ⟨by
            have h := HG10.out
            have e : body39 (ns.take (k + 1)) = body39 (ns.take k) ++ chr39 c := by
              have hkl : k < ns.length := by rw [HN.out]; exact hlk
              unfold body39
              rw [List.take_succ_eq_append_getElem hkl, List.flatMap_append]
              have : ns[k] = c := by rw [← HCN.out, List.getD_eq_getElem?_getD, List.getElem?_eq_getElem hkl]; rfl
              rw [this]
              simp
            rw [e]
            unfold chr39
            rw [HAV.out]
            simp only [← List.append_assoc] at h ⊢
            exact h⟩, HN10, HB10⟩
          case measure => simp [intOf]; omega
        · have hkj : k = j := by omega
          subst hkj
          go_wp2_with fail
          refine (toInts _ gw 148 _ HW.out (w9_length _)).mono ?_
          rintro e w8 ⟨rfl, hx8, hu8⟩
          have HW8 := Aside0.mk hx8
          have HG8 := Aside0.mk (hu8.blk HG.out (by omega))
          have HB8 := Aside0.mk (HBB.out.trans (hu8.below (by omega) HBB.out.size))
          clear hx8 hu8 HW HG HNN HBB
          have hslt : (bars true (w9 148)).length = 12 := star39_length
          have HSLT := Aside0.mk hslt
          clear hslt
          go_wp2_with fail
          refine (appendPat' w8 (gw + 1) (25 + 13 * k) (List.replicate (25 + 13 * k) false) (star39 ++ [false] ++ body39 (ns.take k)) _ _ (w9 148) true p 12 (by rw [HYL.out, HP.out]; omega) (by rw [HSLT.out]; rfl) HG8.out (by simp) (by omega) (by omega) 9 (w9_length _) (C_9 HW8.out) (by omega) (w9_pos _) (by omega) (by omega)).mono ?_
          rintro e w9' ⟨rfl, hx9, hu9⟩
          have HG9 := Aside0.mk hx9
          have HB9 := Aside0.mk (HB8.out.trans (hu9.below (by omega) HB8.out.size))
          clear hx9 hu9 HW8 HG8 HB8
          go_wp2
          go_ret2
          have hlen : (code39 ns).length = 25 + 13 * k := by
            unfold code39
            rw [List.length_append, List.length_append, List.length_append, star39_length, body39_length _ HT.out.2, HN.out]
            simp; omega
          refine ⟨_, rfl, ?_, HB9.out⟩
          have hx := HG9.out
          rw [List.take_of_length_le (by rw [HN.out]; exact Nat.le_refl _)] at hx
          have hx' : Blk w9' (gw + 1) 4 (bools (put (List.replicate (25 + 13 * k) false) (code39 ns))).toArray := hx
          rw [put_all _ _ (by rw [hlen]; simp)] at hx'
          exact Kd.R_mono (R_of_blk hx' hlen (by omega) (by omega)) (fun _ _ => trivial)

/-! ### Code 93: characters -/
def sg93 : ByteArray := ⟨#[48, 49, 50, 51, 52, 53, 54, 55, 56, 57, 65, 66, 67, 68, 69, 70, 71, 72, 73, 74, 75, 76, 77, 78, 79, 80, 81, 82, 83, 84, 85, 86, 87, 88, 89, 90, 45, 46, 32, 36, 47, 43, 37, 97, 98, 99, 100, 42]⟩
def enc93 : List Int := [276, 328, 324, 322, 296, 292, 290, 336, 274, 266, 424, 420, 418, 404, 402, 394, 360, 356, 354, 308, 282, 344, 332, 326, 300, 278, 436, 434, 428, 422, 406, 410, 364, 358, 310, 314, 302, 468, 466, 458, 366, 374, 430, 294, 474, 470, 306, 350]
def b9 (a : Int) : List Bool := (List.range 9).map fun i => Go.bits .and .i64 a (2 ^ (8 - i) : Nat) != 0
theorem b9_length (a : Int) : (b9 a).length = 9 := by simp [b9]
theorem b9_take (a : Int) (i : Nat) (h : i < 9) : (b9 a).take (i + 1) = (b9 a).take i ++ [Go.bits .and .i64 a (2 ^ (8 - i) : Nat) != 0] := by
  rw [List.take_succ_eq_append_getElem (by rw [b9_length]; exact h)]
  simp [b9]
theorem app93_run (xs ys : List Bool) (a : Int) (hX : xs.length ≤ 1000000000) (hl : ys.length + 9 ≤ xs.length) :
    ∀ (d i : Nat), i + d = 9 → Ev (fun k => F.oned_code93AppendPattern.l0 k (put xs (ys ++ (b9 a).take i)) ys.length a i) (9, put xs (ys ++ b9 a)) := by
  intro d
  induction d with
  | zero =>
    intro i hi
    obtain rfl : i = 9 := by omega
    refine Ev.step (f := fun _ => some (9, put xs (ys ++ b9 a))) (fun k => ?_) (Ev.now _)
    rw [F.oned_code93AppendPattern.l0, if_neg (by omega), List.take_of_length_le (by rw [b9_length]; omega)]
  | succ d ih =>
    intro i hi
    have hw : (ys ++ (b9 a).take i).length = ys.length + i := by rw [List.length_append, List.length_take, b9_length]; omega
    refine Ev.step (fun k => ?_) (ih (i + 1) (by omega))
    have hs : ∀ i : Fin 9, 0 ≤ IntKind.u64.wrap (wrap64 (8 - ((i.val : Nat) : Int))) ∧ shl .i64 1 (IntKind.u64.wrap (wrap64 (8 - ((i.val : Nat) : Int)))) = ((2 ^ (8 - i.val) : Nat) : Int) := by decide +kernel
    obtain ⟨h1, h2⟩ := hs ⟨i, by omega⟩
    simp only at h1 h2
    have e1 : wrap64 ((ys.length : Int) + (i : Int)) = ((ys.length + i : Nat) : Int) := by unfold wrap64; omega
    rw [F.oned_code93AppendPattern.l0, if_pos (by omega), if_pos h1, e1, if_pos (by omega), if_pos (by rw [put_length _ _ (by omega)]; omega), h2, show wrap64 ((i : Int) + 1) = ((i + 1 : Nat) : Int) by unfold wrap64; omega]
    rw [Int.toNat_natCast, ← hw, put_set _ _ _ (by omega), b9_take a i (by omega), ← List.append_assoc]
/-- A character's modules, put behind those that are there. -/
theorem app150 (w : World) (gt N : Nat) (xs ys : List Bool) (a pos : Int) (hpos : (ys.length : Int) = pos) (hb : Blk w gt 4 (bools (put xs ys)).toArray) (hN : xs.length = N) (h0 : 0 < N) (hm : N ≤ 1000000000) (hl : pos + 9 ≤ N) :
    Calls Tryz.prog 150 #[.slice (some ⟨gt, 0, none⟩) N N, .int .i64 pos, .int .i64 a] w fun e w' => e = .returned (.int .i64 9) ∧ Blk w' gt 4 (bools (put xs (ys ++ b9 a))).toArray ∧ Upd w w' gt := by
  subst hpos
  obtain ⟨k, hk⟩ := (app93_run xs ys a (by omega) (by omega) 9 0 (by omega)).rounds
  have hpn := put_length xs ys (by omega)
  have hbl : gt ≤ w.heap.size := Nat.le_of_lt hb.lt
  have hr := R_of_blk hb (by rw [hpn, hN]) hm (base := (cutAt w gt).heap.size) (by rw [cut_size w gt hbl]; omega)
  refine (F.oned_code93AppendPattern.calls k (fun i => i = gt) _ _ _ a _ _ (cutAt w gt) w (cut_below w gt hbl) hr (by
    unfold F.oned_code93AppendPattern.f
    simpa using hk)).mono ?_
  rintro e w' ⟨rfl, h1, h2, h3⟩
  exact ⟨rfl, blk_of_R h1 h0, ⟨h2.os, h2.tape, h2.output, h3.1, fun i hi hn => h3.2 i hi hn⟩⟩

/-- A text of Code 93's characters. -/
def Is93 (t : ByteArray) (ns : List Nat) : Prop := t.data.toList = ns.map (fun n => sg93.data.toList.getD n 0) ∧ ∀ n ∈ ns, n < 47
theorem is93_get {t : ByteArray} {ns : List Nat} (h : Is93 t ns) (i : Nat) (hi : i < t.size) : ∃ n, n < 47 ∧ ns.getD i 0 = n ∧ i < ns.length ∧ t[i]'hi = sg93.data.toList.getD n 0 := by
  have hl : t.data.toList.length = ns.length := by rw [h.1, List.length_map]
  have hd : i < ns.length := by rw [← hl, data_length]; exact hi
  refine ⟨ns[i], h.2 _ (List.getElem_mem hd), by rw [List.getD_eq_getElem?_getD, List.getElem?_eq_getElem hd]; rfl, hd, ?_⟩
  have e : t[i]'hi = t.data.toList[i]'(by rw [data_length]; exact hi) := rfl
  rw [e]
  obtain ⟨h1, h2⟩ := h
  simp only [h1, List.getElem_map]
theorem is93_size {t : ByteArray} {ns : List Nat} (h : Is93 t ns) : t.size = ns.length := by rw [← data_length, h.1, List.length_map]
theorem sg93_at (w : World) (n : Nat) (hn : n < 47) : Calls Tryz.prog 142 #[.string sg93, .string ⟨#[sg93.data.toList.getD n 0]⟩] w fun e w' => e = .returned (.int .i64 n) ∧ Below w.heap.size w w' := by
  refine zzAt w sg93 _ (by decide) n n (by have : sg93.size = 48 := rfl; omega) ?_ ?_
  · have : ∀ n : Fin 47, ∀ i : Fin 47, i.val < n.val → sg93.data.toList.getD i 0 ≠ sg93.data.toList.getD n 0 := by decide +kernel
    exact fun i hi => this ⟨n, hn⟩ ⟨i, by omega⟩ hi
  · rw [if_pos (by have : sg93.size = 48 := rfl; omega)]
    exact ⟨rfl, rfl⟩
theorem sg93_lt (n : Nat) (hn : n < 47) : (sg93.data.toList.getD n 0).toNat < 128 := by
  have : ∀ n : Fin 47, (sg93.data.toList.getD n 0).toNat < 128 := by decide +kernel
  exact this ⟨n, hn⟩
/-- The number of a character. -/
def ix93 (x : Int) : Nat := (sg93.data.toList.findIdx (fun b => (b.toNat : Int) == x))
theorem ix93_ext (c : Nat) (h : c < 128) : ∀ x ∈ ext93 c, ix93 x < 47 ∧ sg93.data.toList.getD (ix93 x) 0 = UInt8.ofNat x.toNat := by
  have : ∀ c : Fin 128, ∀ x ∈ ext93 ((c.val : Nat) : Int), ix93 x < 47 ∧ sg93.data.toList.getD (ix93 x) 0 = UInt8.ofNat x.toNat := by decide +kernel
  exact this ⟨c, h⟩
theorem is93_ext (t : ByteArray) (n : Nat) (hn : t.size = n) (ha : ∀ i : Nat, bt t i < 128) : Is93 (strOfNums (ex93 t n)) ((ex93 t n).map ix93) := by
  have hx : ∀ x ∈ ex93 t n, ix93 x < 47 ∧ sg93.data.toList.getD (ix93 x) 0 = UInt8.ofNat x.toNat := by
    intro x hx
    unfold ex93 at hx
    obtain ⟨c, hc, hx⟩ := List.mem_flatMap.1 hx
    have hc' := List.mem_of_mem_take hc
    obtain ⟨i, hi, rfl⟩ := List.getElem_of_mem hc'
    have hb : (bytesOf t)[i] = bt t i := by
      rw [← rd_bytesOf]; unfold rd
      rw [Int.toNat_natCast, List.getD_eq_getElem?_getD, List.getElem?_eq_getElem hi]
      rfl
    rw [hb] at hx
    have h1 := ha i
    have h2 := bt_range t i
    have e : bt t i = (((bt t i).toNat : Nat) : Int) := by omega
    rw [e] at hx
    exact ix93_ext _ (by omega) x hx
  refine ⟨?_, fun m hm => ?_⟩
  · unfold strOfNums
    simp only [List.map_map]
    apply List.map_congr_left
    intro x h
    exact (hx x h).2.symm
  · obtain ⟨x, h, rfl⟩ := List.mem_map.1 hm
    exact (hx x h).1

/-- The sum of j characters from the end, with their weights. -/
def csum (ns : List Nat) (m : Nat) : Nat → Nat
  | 0 => 0
  | j + 1 => csum ns m j + ns.getD (ns.length - 1 - j) 0 * (1 + j % m)
theorem csum_le (ns : List Nat) (m : Nat) (hm : 0 < m) (hm2 : m ≤ 20) (h : ∀ n ∈ ns, n < 47) (j : Nat) : csum ns m j ≤ 920 * j := by
  induction j with
  | zero => simp [csum]
  | succ j ih =>
    rw [csum]
    have h1 : ns.getD (ns.length - 1 - j) 0 ≤ 46 := by
      rw [List.getD_eq_getElem?_getD]
      rcases Nat.lt_or_ge (ns.length - 1 - j) ns.length with hl | hl
      · rw [List.getElem?_eq_getElem hl]; have := h _ (List.getElem_mem hl); simp; omega
      · rw [List.getElem?_eq_none hl]; simp
    have h2 : 1 + j % m ≤ 20 := by have := Nat.mod_lt j hm; omega
    have := Nat.mul_le_mul h1 h2
    omega
def chk93 (ns : List Nat) (m : Nat) : Nat := csum ns m ns.length % 47
set_option maxHeartbeats 4000000 in
set_option maxRecDepth 100000 in
theorem chk152 (w : World) (t : ByteArray) (ns : List Nat) (m : Nat) (mi : Int) (hmi : (m : Int) = mi) (hm : 2 ≤ m) (hm2 : m ≤ 20) (ht : Is93 t ns) (hl : ns.length ≤ 200) :
    Calls Tryz.prog 152 #[.string t, .int .i64 mi] w fun e w' => e = .returned (.int .i64 (chk93 ns m : Nat)) ∧ Below w.heap.size w w' := by
  subst hmi
  obtain ⟨n, hn⟩ : ∃ n, ns.length = n := ⟨_, rfl⟩
  have hsz : t.size = n := by rw [is93_size ht, hn]
  have hsI : (t.size : Int) = (n : Int) := by omega
  have HT := Aside0.mk ht
  have HN := Aside0.mk hn
  have HSZ := Aside0.mk hsz
  have hn200 : n ≤ 200 := by omega
  clear ht hsz hl hn
  go_enter Tryz.func152, Tryz.ntmps152
  go_wp2_with fail
  go_loopw [5, 6, 7] (fun wv sv v wr => ∃ (j : Nat) (wt sm : Int), j ≤ n ∧ v = .int .i64 ((n : Int) - 1 - j) ∧ wv = .int .i64 wt ∧ sv = .int .i64 sm ∧ 1 ≤ wt ∧ wt ≤ m ∧ 0 ≤ sm ∧ sm ≤ 920 * j ∧ Aside0 (wt = 1 + (j % m : Nat)) ∧ Aside0 (sm = (csum ns m j : Nat)) ∧ Aside0 (Below w.heap.size w wr)) (fun _ _ v _ => (intOf v + 1).toNat)
  case atStart => exact ⟨0, 1, 0, by omega, by go_num, rfl, rfl, by omega, by omega, by omega, by omega, ⟨by simp⟩, ⟨rfl⟩, ⟨Below.refl _ _⟩⟩
  case round =>
    obtain ⟨j, wt, sm, hj, rfl, rfl, rfl, hw0, hw1, hs0, hs1, HW, HSM, HB⟩ := hrel
    by_cases hlt : j < n
    · have d1 : decide ((n : Int) - 1 - (j : Int) ≥ 0) = true := decide_eq_true (by omega)
      have hit : n - 1 - j < t.size := by have := HSZ.out; omega
      obtain ⟨c, hc, hcn, hcl, hct⟩ := is93_get HT.out (n - 1 - j) hit
      have hcv := conv_byte _ (sg93_lt c hc)
      obtain ⟨cb, hcb⟩ : ∃ cb, sg93.data.toList.getD c 0 = cb := ⟨_, rfl⟩
      rw [hcb] at hct hcv
      have hz := fun W => sg93_at W c hc
      rw [hcb] at hz
      have HZ := Aside0.mk hz
      have k3 : ((n : Int) - 1 - (j : Int)).toNat = n - 1 - j := by omega
      have HCS := Aside0.mk (show csum ns m (j + 1) = csum ns m j + c * (1 + j % m) by rw [csum, HN.out, hcn])
      obtain ⟨pr, hpr⟩ : ∃ pr : Int, (c : Int) * wt = pr := ⟨_, rfl⟩
      have hpr2 : 0 ≤ pr ∧ pr ≤ 920 := by
        have h1 : (0 : Int) ≤ c := by omega
        have h2 := Int.mul_nonneg h1 (show 0 ≤ wt by omega)
        have h3 : (c : Int) * wt ≤ 46 * wt := Int.mul_le_mul_of_nonneg_right (by omega) (by omega)
        omega
      obtain ⟨hp0, hp1⟩ := hpr2
      have hprw : wrap64 ((c : Int) * wt) = pr := by rw [hpr]; unfold wrap64; omega
      have HPR := Aside0.mk hpr
      clear hz hcb hcn hcl hpr k3
      go_wp2_with fail
      refine (HZ.out _).mono ?_
      rintro e w' ⟨rfl, hb⟩
      have HB' := Aside0.mk (HB.out.trans (hb.mono HB.out.size))
      clear hb HB
      by_cases hmx : wt = (m : Int)
      · have d2 : decide ((m : Int) < wt + 1) = true := decide_eq_true (by omega)
        have HMX := Aside0.mk hmx
        clear hmx
        go_wp2
        go_roundw
        case rel => exact ⟨j + 1, 1, sm + pr, by omega, by go_num, rfl, rfl, by omega, by omega, by omega, by omega, ⟨by
          have h1 := HW.out; have h2 := HMX.out
          have h3 : j % m = m - 1 := by omega
          have h4 : (j + 1) % m = 0 := by
            rw [Nat.add_mod, h3, Nat.mod_eq_of_lt (show 1 < m by omega), show m - 1 + 1 = m by omega, Nat.mod_self]
          rw [h4]; rfl⟩, ⟨by rw [HCS.out, ← HPR.out, HSM.out, HW.out]; simp⟩, HB'⟩
        case measure => simp [intOf]; omega
      · have d2 : decide ((m : Int) < wt + 1) = false := decide_eq_false (by omega)
        have HMX := Aside0.mk hmx
        have hmx2 : wt < m := by omega
        clear hmx
        go_wp2
        go_roundw
        case rel => exact ⟨j + 1, wt + 1, sm + pr, by omega, by go_num, rfl, rfl, by omega, by omega, by omega, by omega, ⟨by
          have h1 := HW.out
          have h3 : j % m < m - 1 := by omega
          have h4 : (j + 1) % m = j % m + 1 := by
            rw [Nat.add_mod, Nat.mod_eq_of_lt (show 1 < m by omega), Nat.mod_eq_of_lt (show j % m + 1 < m by omega)]
          rw [h4]; omega⟩, ⟨by rw [HCS.out, ← HPR.out, HSM.out, HW.out]; simp⟩, HB'⟩
        case measure => simp [intOf]; omega
    · obtain rfl : j = n := by omega
      have d1 : decide ((j : Int) - 1 - (j : Int) ≥ 0) = false := decide_eq_false (by omega)
      go_wp2
      go_ret
      refine ⟨?_, HB.out⟩
      have : chk93 ns m = csum ns m j % 47 := by unfold chk93; rw [HN.out]
      rw [this, HSM.out]
      rfl

/-! ### Code 93's encoder -/
def body93 (ns : List Nat) : List Bool := ns.flatMap fun n => b9 (enc93.getD n 0)
theorem body93_length (ns : List Nat) : (body93 ns).length = 9 * ns.length := by
  induction ns with
  | nil => rfl
  | cons n r ih => unfold body93 at ih ⊢; rw [List.flatMap_cons, List.length_append, ih, b9_length, List.length_cons]; omega
theorem body93_snoc (ns : List Nat) (k : Nat) (h : k < ns.length) : body93 (ns.take (k + 1)) = body93 (ns.take k) ++ b9 (enc93.getD (ns.getD k 0) 0) := by
  unfold body93
  rw [List.take_succ_eq_append_getElem h, List.flatMap_append]
  have : ns[k] = ns.getD k 0 := by rw [List.getD_eq_getElem?_getD, List.getElem?_eq_getElem h]; rfl
  rw [this]; simp
def code93 (ns : List Nat) : List Bool := b9 350 ++ body93 ns ++ b9 (enc93.getD (chk93 ns 20) 0) ++ b9 (enc93.getD (chk93 (ns ++ [chk93 ns 20]) 15) 0) ++ b9 350 ++ [true]
theorem code93_length (ns : List Nat) : (code93 ns).length = (ns.length + 4) * 9 + 1 := by
  unfold code93
  simp only [List.length_append, b9_length, body93_length, List.length_cons, List.length_nil]
  omega
theorem is93_snoc {t : ByteArray} {ns : List Nat} (h : Is93 t ns) (c : Nat) (hc : c < 47) : Is93 (t ++ ⟨#[sg93.data.toList.getD c 0]⟩) (ns ++ [c]) := by
  refine ⟨?_, fun m hm => ?_⟩
  · rw [ba_append, h.1, List.map_append]; rfl
  · rcases List.mem_append.1 hm with h1 | h1
    · exact h.2 m h1
    · obtain rfl := List.mem_singleton.1 h1; exact hc
theorem idx93 (c : Nat) (hc : c < 47) (W : World) : (Instr.index 9 (.string ⟨#[48, 49, 50, 51, 52, 53, 54, 55, 56, 57, 65, 66, 67, 68, 69, 70, 71, 72, 73, 74, 75, 76, 77, 78, 79, 80, 81, 82, 83, 84, 85, 86, 87, 88, 89, 90, 45, 46, 32, 36, 47, 43, 37, 97, 98, 99, 100, 42]⟩) (.int .i64 (c : Int))).run Tryz.prog W = .ok (.int .u8 ((sg93.data.toList.getD c 0).toNat : Int)) W := by
  have h := run_index_string (P := Tryz.prog) (w := W) 9 sg93 .i64 (c : Int) Tryz.underlying9
  have hs : sg93.size = 48 := rfl
  refine h.trans ?_
  have hl : c < sg93.size := by omega
  have hd : c < sg93.data.toList.length := by rw [data_length]; exact hl
  have e : (sg93[c]'hl) = sg93.data.toList.getD c 0 := by
    rw [List.getD_eq_getElem?_getD, List.getElem?_eq_getElem hd]
    rfl
  simp [hl, e]
theorem b9_350 : b9 350 = b9 (enc93.getD 47 0) := rfl
theorem chk93_lt (ns : List Nat) (m : Nat) : chk93 ns m < 47 := Nat.mod_lt _ (by decide)

set_option maxHeartbeats 8000000 in
set_option maxRecDepth 100000 in
theorem enc93_calls (w : World) (mv : Value) (s T : ByteArray) (ns : List Nat) (n : Nat) (hn : ns.length = n) (hn2 : n ≤ 80) (ht : Is93 T ns)
    (hext : ∀ W : World, Calls Tryz.prog 149 #[.string s] W fun e w' => e = .returned (.tuple #[.string T, .nilIface]) ∧ Below W.heap.size W w') :
    Calls Tryz.prog 147 #[.agg #[], .string s, mv] w fun e w' => ∃ v, e = .returned (.tuple #[v, .nilIface]) ∧ Kd.R Kd.bool 4 w' w.heap.size (fun _ => True) v (code93 ns) ∧ Below w.heap.size w w' := by
  have hsz : T.size = n := by rw [is93_size ht, hn]
  have hsI : (T.size : Int) = (n : Int) := by omega
  have h80 : decide ((80 : Int) < (n : Int)) = false := decide_eq_false (by omega)
  have HT := Aside0.mk ht
  have HN := Aside0.mk hn
  have HE := Aside0.mk hext
  obtain ⟨L, hL⟩ : ∃ L, (n + 4) * 9 + 1 = L := ⟨_, rfl⟩
  have hmk := make_bool L (by omega)
  have hLi : ((n : Int) + 2 + 2) * 9 + 1 = (L : Int) := by omega
  have HL := Aside0.mk hL
  have HSZ := Aside0.mk hsz
  have hLp : 37 ≤ L := by omega
  have hLm : L ≤ 757 := by omega
  have HC1 := Aside0.mk (fun W : World => chk152 W T ns 20 20 rfl (by omega) (by omega) ht (by omega))
  obtain ⟨c1, hc1⟩ : ∃ c1, chk93 ns 20 = c1 := ⟨_, rfl⟩
  have hc1l : c1 < 47 := by rw [← hc1]; exact chk93_lt _ _
  have HC2 := Aside0.mk (fun W : World => chk152 W _ (ns ++ [c1]) 15 15 rfl (by omega) (by omega) (is93_snoc ht c1 hc1l) (by rw [List.length_append]; simp; omega))
  obtain ⟨c2, hc2⟩ : ∃ c2, chk93 (ns ++ [c1]) 15 = c2 := ⟨_, rfl⟩
  have hc2l : c2 < 47 := by rw [← hc2]; exact chk93_lt _ _
  have HCODE := Aside0.mk (show code93 ns = b9 350 ++ body93 ns ++ b9 (enc93.getD c1 0) ++ b9 (enc93.getD c2 0) ++ b9 350 ++ [true] by unfold code93; rw [hc1, hc2])
  have HLEN := Aside0.mk (show (code93 ns).length = L by rw [code93_length, hn, hL])
  rw [hc1] at HC1
  rw [hc2] at HC2
  have hidx := idx93 c1 hc1l
  have hcv1 := conv_byte _ (sg93_lt c1 hc1l)
  obtain ⟨cb1, hcb1⟩ : ∃ cb, sg93.data.toList.getD c1 0 = cb := ⟨_, rfl⟩
  rw [hcb1] at hidx hcv1 HC2
  obtain ⟨T2, hT2⟩ : ∃ T2, T ++ ⟨#[cb1]⟩ = T2 := ⟨_, rfl⟩
  have HT2 := Aside0.mk hT2
  rw [hT2] at HC2
  have c9 : T.size + 1 ≤ 9223372036854775807 := by omega
  have c9b0 := eq_true c9
  have c9b1 : decide (T.size + 1 ≤ 9223372036854775807) = true := decide_eq_true c9
  have c9b2 : (9223372036854775807 < T.size + 1) = False := eq_false (Nat.not_lt.2 c9)
  clear ht hn hsz hext hL hc1 hc2 hcb1 hT2
  go_enter Tryz.func147, Tryz.ntmps147
  go_wp2_with fail
  refine (HE.out _).mono ?_
  rintro e w1 ⟨rfl, hb⟩
  have HB1 := Aside0.mk ((below_alloc (Below.refl _ w) (.cells #[] 90)).trans (hb.mono (by simp)))
  clear hb HE
  go_wp2_with fail
  obtain ⟨gt, hgt⟩ : ∃ gt, w1.heap.size = gt := ⟨_, rfl⟩
  obtain ⟨w2, hw2⟩ : ∃ w2, w1.alloc (.cells (bools (List.replicate L false)).toArray 4) = w2 := ⟨_, rfl⟩
  have hbk : Blk w2 gt 4 (bools (put (List.replicate L false) [])).toArray := by rw [← hw2, ← hgt, put_nil]; exact Blk.new _ _ _
  have hb2 : Below w.heap.size w w2 := by rw [← hw2]; exact HB1.out.trans ((below_alloc (Below.refl _ w1) _).mono HB1.out.size)
  have hge : w.heap.size ≤ gt := by rw [← hgt]; exact HB1.out.size
  have HB2 := Aside0.mk hb2
  have HBK := Aside0.mk hbk
  simp only [hw2, hgt]
  clear hb2 hbk hw2 hgt HB1 hmk hLi
  refine (app150 w2 gt L (List.replicate L false) [] 350 0 rfl HBK.out (by simp) (by omega) (by omega) (by omega)).mono ?_
  rintro e w3 ⟨rfl, hx, hu⟩
  have HX3 := Aside0.mk hx
  have HB3 := Aside0.mk (HB2.out.trans (hu.below hge HB2.out.size))
  clear hx hu HBK HB2
  go_wp2
  go_loopw [12, 13] (fun pv v wi => ∃ k : Nat, k ≤ n ∧ v = .int .i64 k ∧ pv = .int .i64 (9 + 9 * (k : Int)) ∧ Aside0 (Blk wi gt 4 (bools (put (List.replicate L false) (b9 350 ++ body93 (ns.take k)))).toArray) ∧ Aside0 (Below w.heap.size w wi)) (fun _ v _ => n - (intOf v).toNat)
  case atStart => exact ⟨0, by omega, rfl, rfl, ⟨by have := HX3.out; simpa [body93] using this⟩, HB3⟩
  case round =>
    obtain ⟨k, hk, rfl, rfl, HX, HB⟩ := hrel
    clear HX3 HB3
    have hyl : (b9 350 ++ body93 (ns.take k)).length = 9 + 9 * k := by
      rw [List.length_append, b9_length, body93_length, List.length_take, HN.out]; omega
    have HYL := Aside0.mk hyl
    clear hyl
    by_cases hlt : k < n
    · have hit : k < T.size := by have := HSZ.out; omega
      obtain ⟨c, hc, hcn, hcl, hct⟩ := is93_get HT.out k hit
      have hcv := conv_byte _ (sg93_lt c hc)
      have hz := fun W => sg93_at W c hc
      obtain ⟨cb, hcb⟩ : ∃ cb, sg93.data.toList.getD c 0 = cb := ⟨_, rfl⟩
      rw [hcb] at hct hcv hz
      have HZ := Aside0.mk hz
      have HSN := Aside0.mk (show body93 (ns.take (k + 1)) = body93 (ns.take k) ++ b9 (enc93.getD c 0) by rw [body93_snoc ns k hcl, hcn])
      clear hz hcb hcn hcl
      go_wp2_with fail
      refine (HZ.out _).mono ?_
      rintro e w4 ⟨rfl, hb4⟩
      have HX4 := Aside0.mk (HX.out.below hb4 HX.out.lt)
      have HB4 := Aside0.mk (HB.out.trans (hb4.mono HB.out.size))
      clear hb4 HX HB
      go_wp2_with fail
      refine (F.oned_code93CharacterEncodings.calls enc93 _ rfl).mono ?_
      rintro e w5 ⟨v5, rfl, hr5, hb5⟩
      have HX5 := Aside0.mk (HX4.out.below hb5 HX4.out.lt)
      have HB5 := Aside0.mk (HB4.out.trans (hb5.mono HB4.out.size))
      clear hb5 HX4 HB4
      obtain ⟨ad, c5, rfl, hc5, hcell⟩ := tab_cell hr5 c (by have : enc93.length = 48 := rfl; omega)
      rw [show enc93.length = 48 from rfl]
      obtain ⟨av, hav⟩ : ∃ av, enc93.getD c 0 = av := ⟨_, rfl⟩
      rw [hav] at hcell HSN
      clear hr5 hav hc5
      go_wp2_with fail
      refine (app150 w5 gt L (List.replicate L false) (b9 350 ++ body93 (ns.take k)) av (9 + 9 * (k : Int)) (by rw [HYL.out]; omega) HX5.out (by simp) (by omega) (by omega) (by have := HL.out; omega)).mono ?_
      rintro e w6 ⟨rfl, hx, hu⟩
      have HX6 := Aside0.mk hx
      have HB6 := Aside0.mk (HB5.out.trans (hu.below hge HB5.out.size))
      clear hx hu HX5 HB5 hcell
      go_wp2
      go_roundw
      case rel => exact ⟨k + 1, by omega, by go_num, by go_num, ⟨by
        have := HX6.out
        rw [HSN.out, ← List.append_assoc]
        exact this⟩, HB6⟩
      case measure => simp [intOf]; omega
    · have hkn : k = n := by omega
      subst hkn
      have HTK := Aside0.mk (show ns.take k = ns from List.take_of_length_le (by rw [HN.out]; exact Nat.le_refl _))
      rw [HTK.out] at HX HYL
      go_wp2_with fail
      refine (HC1.out _).mono ?_
      rintro e w4 ⟨rfl, hb4⟩
      have HX4 := Aside0.mk (HX.out.below hb4 HX.out.lt)
      have HB4 := Aside0.mk (HB.out.trans (hb4.mono HB.out.size))
      clear hb4 HX HB
      go_wp2_with fail
      refine (F.oned_code93CharacterEncodings.calls enc93 _ rfl).mono ?_
      rintro e w5 ⟨v5, rfl, hr5, hb5⟩
      have HX5 := Aside0.mk (HX4.out.below hb5 HX4.out.lt)
      have HB5 := Aside0.mk (HB4.out.trans (hb5.mono HB4.out.size))
      clear hb5 HX4 HB4
      obtain ⟨ad, c5, rfl, hc5, hcell⟩ := tab_cell hr5 c1 (by have : enc93.length = 48 := rfl; omega)
      rw [show enc93.length = 48 from rfl]
      obtain ⟨a1, ha1⟩ : ∃ a1, enc93.getD c1 0 = a1 := ⟨_, rfl⟩
      rw [ha1] at hcell HCODE
      clear hr5 ha1 hc5
      go_wp2_with fail
      refine (app150 w5 gt L (List.replicate L false) (b9 350 ++ body93 ns) a1 (9 + 9 * (k : Int)) (by rw [HYL.out]; omega) HX5.out (by simp) (by omega) (by omega) (by have := HL.out; omega)).mono ?_
      rintro e w6 ⟨rfl, hx, hu⟩
      have HX6 := Aside0.mk hx
      have HB6 := Aside0.mk (HB5.out.trans (hu.below hge HB5.out.size))
      clear hx hu HX5 HB5 hcell
      go_wp2_with fail
      rw [HT2.out]
      refine (HC2.out _).mono ?_
      rintro e w7 ⟨rfl, hb7⟩
      have HX7 := Aside0.mk (HX6.out.below hb7 HX6.out.lt)
      have HB7 := Aside0.mk (HB6.out.trans (hb7.mono HB6.out.size))
      clear hb7 HX6 HB6
      go_wp2_with fail
      refine (F.oned_code93CharacterEncodings.calls enc93 _ rfl).mono ?_
      rintro e w8 ⟨v8, rfl, hr8, hb8⟩
      have HX8 := Aside0.mk (HX7.out.below hb8 HX7.out.lt)
      have HB8 := Aside0.mk (HB7.out.trans (hb8.mono HB7.out.size))
      clear hb8 HX7 HB7
      obtain ⟨ad, c8, rfl, hc8, hcell⟩ := tab_cell hr8 c2 (by have : enc93.length = 48 := rfl; omega)
      rw [show enc93.length = 48 from rfl]
      obtain ⟨a2, ha2⟩ : ∃ a2, enc93.getD c2 0 = a2 := ⟨_, rfl⟩
      rw [ha2] at hcell HCODE
      clear hr8 ha2 hc8
      go_wp2_with fail
      refine (app150 w8 gt L (List.replicate L false) (b9 350 ++ body93 ns ++ b9 a1) a2 (9 + 9 * (k : Int) + 9) (by rw [List.length_append, HYL.out, b9_length]; omega) HX8.out (by simp) (by omega) (by omega) (by have := HL.out; omega)).mono ?_
      rintro e w9 ⟨rfl, hx, hu⟩
      have HX9 := Aside0.mk hx
      have HB9 := Aside0.mk (HB8.out.trans (hu.below hge HB8.out.size))
      clear hx hu HX8 HB8 hcell
      go_wp2_with fail
      refine (app150 w9 gt L (List.replicate L false) (b9 350 ++ body93 ns ++ b9 a1 ++ b9 a2) 350 (9 + 9 * (k : Int) + 9 + 9) (by rw [List.length_append, List.length_append, HYL.out, b9_length, b9_length]; omega) HX9.out (by simp) (by omega) (by omega) (by have := HL.out; omega)).mono ?_
      rintro e w10 ⟨rfl, hx, hu⟩
      have hyl5 : (b9 350 ++ body93 ns ++ b9 a1 ++ b9 a2 ++ b9 350).length = L - 1 := by
        rw [List.length_append, List.length_append, List.length_append, HYL.out, b9_length, b9_length, b9_length]; have := HL.out; omega
      obtain ⟨Y, hY⟩ : ∃ Y, b9 350 ++ body93 ns ++ b9 a1 ++ b9 a2 ++ b9 350 = Y := ⟨_, rfl⟩
      rw [hY] at hx hyl5 HCODE
      have HX10 := Aside0.mk hx
      have HB10 := Aside0.mk (HB9.out.trans (hu.below hge HB9.out.size))
      have hfz := hx.frozen (L - 1)
      have hcl5 := hx.bcell ((L - 1 : Nat) : Int) (by omega) (by rw [put_length _ _ (by rw [hyl5]; simp)]; simp; omega)
      simp only [Int.toNat_natCast] at hcl5
      have kL : 9 + 9 * (k : Int) + 9 + 9 + 9 = ((L - 1 : Nat) : Int) := by have := HL.out; omega
      have kL2 : L - 1 < L := by omega
      have HYL5 := Aside0.mk hyl5
      clear hx hu HX9 HB9 hyl5
      go_wp2
      go_ret2
      refine ⟨_, rfl, ?_, ?_⟩
      · have hx' := HX10.out.bset (L - 1) true
        have hsp := put_set (List.replicate L false) Y true (by rw [HYL5.out]; simp; omega)
        rw [HYL5.out] at hsp
        rw [hsp, ← HCODE.out, put_all _ _ (by rw [HLEN.out]; simp)] at hx'
        exact Kd.R_mono (R_of_blk hx' HLEN.out (by omega) hge) (fun _ _ => trivial)
      · exact HB10.out.setCell hge _

/-! ### The reference's bars -/
theorem bars_append (l m : List Int) (c : Bool) : bars c (l ++ m) = bars c l ++ bars (if l.length % 2 = 0 then c else !c) m := by
  induction l generalizing c with
  | nil => simp [bars]
  | cons a l ih =>
    simp only [List.cons_append, bars, ih, List.append_assoc, List.length_cons]
    congr 3
    by_cases h : l.length % 2 = 0
    · rw [if_pos h, if_neg (by omega)]
    · rw [if_neg h, if_pos (by omega)]; simp
theorem bars_even (l m : List Int) (h : l.length % 2 = 0) (c : Bool) : bars c (l ++ m) = bars c l ++ bars c m := by rw [bars_append, if_pos h]

theorem odBars_run (ps : List Int) (hp : ∀ p ∈ ps, 0 ≤ p ∧ p ≤ 1000) (hl : ps.length ≤ 1000000) :
    ∀ (qs done : List Int) (ys : List Bool), ps = done ++ qs → (ys.length : Int) + 1000 * qs.length ≤ 100000000000 → Ev (fun k => F.spec_ODBars.l0 k ps ys done.length) (ys ++ bars (done.length % 2 == 0) qs) := by
  intro qs
  induction qs with
  | nil =>
    intro done ys he hy
    refine Ev.step (f := fun _ => some ys) (fun k => ?_) ?_
    · rw [F.spec_ODBars.l0, if_neg (by rw [he]; simp)]
    · simpa [bars] using Ev.now ys
  | cons q qs ih =>
    intro done ys he hy
    have hq := hp q (by rw [he]; simp)
    have hlt : (done.length : Int) < ps.length := by rw [he]; simp; omega
    have hrd : rd ps done.length = q := by simp [rd, he]
    have hmod : (Int.tmod (done.length : Int) 2 == 0) = (done.length % 2 == 0) := by
      rw [Int.tmod_eq_emod_of_nonneg (by omega)]
      rw [Bool.eq_iff_iff, beq_iff_eq, beq_iff_eq]
      omega
    simp only [List.length_cons] at hy
    refine Ev.step (f := fun k => F.spec_ODBars.l1 k ps ys done.length 0) (fun k => ?_) ?_
    · rw [F.spec_ODBars.l0, if_pos hlt]
    · suffices H : ∀ (d : Nat) (j : Int) (zs : List Bool), 0 ≤ j → q - j = d → (zs.length : Int) + d + 1000 * qs.length ≤ 100000000000 → zs ++ List.replicate d (done.length % 2 == 0) = ys ++ List.replicate q.toNat (done.length % 2 == 0) → Ev (fun k => F.spec_ODBars.l1 k ps zs done.length j) (ys ++ bars (done.length % 2 == 0) (q :: qs)) from
        H q.toNat 0 ys (by omega) (by omega) (by omega) rfl
      intro d
      induction d with
      | zero =>
        intro j zs h0 hd hz hzz
        have h1 := ih (done ++ [q]) zs (by simp [he]) (by omega)
        refine Ev.step (f := fun k => F.spec_ODBars.l0 k ps zs ((done ++ [q]).length : Nat)) (fun k => ?_) ?_
        · rw [F.spec_ODBars.l1, if_pos (by omega), if_pos hlt, hrd, if_neg (by omega), show wrap64 ((done.length : Int) + 1) = ((done ++ [q]).length : Nat) by simp; unfold wrap64; omega]
        · simp only [List.replicate_zero, List.append_nil] at hzz
          rw [hzz] at h1
          have e : ((done ++ [q]).length % 2 == 0) = !(done.length % 2 == 0) := by
            rw [List.length_append, List.length_singleton]
            rcases Nat.mod_two_eq_zero_or_one done.length with h | h
            · rw [h, show (done.length + 1) % 2 = 1 by omega]; rfl
            · rw [h, show (done.length + 1) % 2 = 0 by omega]; rfl
          rw [e] at h1
          rw [hzz]
          simpa [bars] using h1
      | succ d ihd =>
        intro j zs h0 hd hz hzz
        refine Ev.step (f := fun k => F.spec_ODBars.l1 k ps (zs ++ [done.length % 2 == 0]) done.length (j + 1)) (fun k => ?_) ?_
        · rw [F.spec_ODBars.l1, if_pos (by omega), if_pos hlt, hrd, if_pos (by omega), if_pos (by omega), hmod, show wrap64 (j + 1) = j + 1 by unfold wrap64; omega]
        · exact ihd (j + 1) _ (by omega) (by omega) (by simp; omega) (by rw [← hzz]; simp [List.replicate_succ])

theorem odBars (ps : List Int) (hp : ∀ p ∈ ps, 0 ≤ p ∧ p ≤ 1000) (hl : ps.length ≤ 1000000) : Ev (fun k => F.spec_ODBars.f k ps) (bars true ps) := odBars_run ps hp hl ps [] [] rfl (by simp; omega)

theorem odAt_run (s : ByteArray) (b : Int) (hs : s.size ≤ 1000) (n : Nat) (hn : n < s.size) (hf : ∀ i : Nat, i < n → bt s i ≠ b) (hb : bt s n = b) :
    ∀ (d i : Nat), i + d = n → Ev (fun k => F.spec_odAt.l0 k s b i) (n : Int) := by
  intro d
  induction d with
  | zero =>
    intro i hi
    obtain rfl : i = n := by omega
    refine Ev.step (f := fun _ => some (i : Int)) (fun k => ?_) (Ev.now _)
    rw [F.spec_odAt.l0, if_pos (by omega), if_pos (by omega), if_pos hb]
  | succ d ih =>
    intro i hi
    refine Ev.step (fun k => ?_) (ih (i + 1) (by omega))
    rw [F.spec_odAt.l0, if_pos (by omega), if_pos (by omega), if_neg (hf i (by omega)), show wrap64 ((i : Int) + 1) = ((i + 1 : Nat) : Int) by unfold wrap64; omega]
theorem odAt (s : ByteArray) (b : Int) (hs : s.size ≤ 1000) (n : Nat) (hn : n < s.size) (hf : ∀ i : Nat, i < n → bt s i ≠ b) (hb : bt s n = b) : Ev (fun k => F.spec_odAt.f k s b) (n : Int) := odAt_run s b hs n hn hf hb n 0 (by omega)
theorem bt_list (s : ByteArray) (i : Nat) (h : i < s.size) : bt s i = ((s.data.toList.getD i 0).toNat : Int) := by
  have hl : i < s.data.toList.length := by rw [data_length]; exact h
  rw [← bt_at s (i : Int) (by simpa using h), List.getD_eq_getElem?_getD, List.getElem?_eq_getElem hl]
  rfl
theorem odAt39 (n : Nat) (hn : n < 43) : Ev (fun k => F.spec_odAt.f k sg39 ((sg39.data.toList.getD n 0).toNat : Int)) (n : Int) := by
  refine odAt sg39 _ (by decide) n hn ?_ (bt_list sg39 n hn)
  intro i hi
  rw [bt_list sg39 i (by have : sg39.size = 43 := rfl; omega)]
  have : ∀ n : Fin 43, ∀ i : Fin 43, i.val < n.val → ((sg39.data.toList.getD i 0).toNat : Int) ≠ ((sg39.data.toList.getD n 0).toNat : Int) := by decide +kernel
  exact this ⟨n, hn⟩ ⟨i, by omega⟩ hi

def enc44 : List Int := enc39 ++ [148]
theorem elem39 (n : Nat) (hn : n < 44) : ∃ b, F.spec_od39Bits.f n = some b ∧ Ev (fun k => F.spec_odElements.f k b 9 2) (w9 (enc44.getD n 0)) := by
  have : ∀ n : Fin 44, F.spec_od39Bits.f (n : Nat) = some (enc44.getD n 0) ∧ F.spec_odElements.f 10 (enc44.getD n 0) 9 2 = some (w9 (enc44.getD n 0)) := by decide +kernel
  obtain ⟨h1, h2⟩ := this ⟨n, hn⟩
  exact ⟨_, h1, Ev.of (F.spec_odElements.mono _ _ _) h2⟩
theorem enc44_lt (n : Nat) (hn : n < 43) : enc44.getD n 0 = enc39.getD n 0 := by
  have : ∀ n : Fin 43, enc44.getD n 0 = enc39.getD n 0 := by decide +kernel
  exact this ⟨n, hn⟩

def ws39 (ns : List Nat) : List Int := w9 148 ++ ns.flatMap fun n => 1 :: w9 (enc39.getD n 0)
theorem ws39_bars : ∀ (ns : List Nat), (∀ n ∈ ns, n < 43) → (ws39 ns).length % 2 = 1 ∧ (ws39 ns).length = 9 + 10 * ns.length ∧ bars true (ws39 ns ++ [1]) = star39 ++ [false] ++ body39 ns := by
  intro ns h
  suffices H : ∀ k, k ≤ ns.length → (ws39 (ns.take k)).length % 2 = 1 ∧ (ws39 (ns.take k)).length = 9 + 10 * k ∧ bars true (ws39 (ns.take k) ++ [1]) = star39 ++ [false] ++ body39 (ns.take k) from by
    have := H ns.length (Nat.le_refl _)
    rwa [List.take_of_length_le (Nat.le_refl _)] at this
  intro k
  induction k with
  | zero => intro _; exact ⟨by simp [ws39, w9_length], by simp [ws39, w9_length], by rw [bars_append]; simp [ws39, w9_length, star39, body39, bars]⟩
  | succ k ih =>
    intro hk
    obtain ⟨h1, h2, h3⟩ := ih (by omega)
    rw [List.take_succ_eq_append_getElem (show k < ns.length by omega)]
    generalize hms : ns.take k = ms at *
    generalize ns[k] = n
    have e : ws39 (ms ++ [n]) = (ws39 ms ++ [1]) ++ w9 (enc39.getD n 0) := by simp [ws39]
    have hl : (ws39 (ms ++ [n])).length = 9 + 10 * (k + 1) := by rw [e]; simp [w9_length]; omega
    refine ⟨by omega, hl, ?_⟩
    rw [e, List.append_assoc, bars_even _ _ (by simp; omega), h3]
    have : bars true (w9 (enc39.getD n 0) ++ [1]) = chr39 n := by
      rw [bars_append, w9_length]
      rfl
    rw [this]
    simp [body39]
theorem ws39_pos (ns : List Nat) : ∀ p ∈ ws39 ns, 0 ≤ p ∧ p ≤ 1000 := by
  intro p hp
  simp only [ws39, List.mem_append, List.mem_flatMap, List.mem_cons] at hp
  rcases hp with hp | ⟨n, _, rfl | hp⟩
  · exact w9_pos _ p hp
  · omega
  · exact w9_pos _ p hp

theorem spec39 (t : ByteArray) (ns : List Nat) (n : Nat) (h : Is39 t ns) (hn : ns.length = n) (hn2 : n ≤ 80) : Ev (fun k => F.spec_OD39.f k t) (code39 ns) := by
  have hsz : t.size = n := by rw [← data_length, h.1]; simp [hn]
  have hws : ∀ i, (ws39 (ns.take i)).length ≤ 9 + 10 * 80 := fun i => by
    rw [(ws39_bars (ns.take i) (fun d hd => h.2 d (List.mem_of_mem_take hd))).2.1, List.length_take]; omega
  have hend : Ev (fun k => F.spec_OD39.l0 k t (ws39 ns ++ [1] ++ w9 148) ((n + 1 : Nat) : Int)) (code39 ns) := by
    obtain ⟨h1, h2, h3⟩ := ws39_bars ns h.2
    have e : bars true (ws39 ns ++ [1] ++ w9 148) = code39 ns := by
      rw [bars_even _ _ (by simp; omega), h3]
      rfl
    have hb := odBars (ws39 ns ++ [1] ++ w9 148) (fun p hp => by
      simp only [List.mem_append, List.mem_singleton] at hp
      rcases hp with (hp | rfl) | hp
      · exact ws39_pos ns p hp
      · omega
      · exact w9_pos _ p hp) (by simp [h2, w9_length]; omega)
    rw [e] at hb
    refine Ev.step (f := fun k => (F.spec_ODBars.f k (ws39 ns ++ [1] ++ w9 148)).bind fun t => some t) (fun k => ?_) (hb.bind (Ev.now _))
    rw [F.spec_OD39.l0, if_neg (by omega)]
  obtain ⟨bs, hbs, hes⟩ := elem39 43 (by omega)
  have e43 : enc44.getD 43 0 = 148 := rfl
  rw [e43] at hes
  have hmain : ∀ (d i : Nat), i + d = n → Ev (fun k => F.spec_OD39.l0 k t (ws39 (ns.take i)) (i : Int)) (code39 ns) := by
    intro d
    induction d with
    | zero =>
      intro i hi
      obtain rfl : i = n := by omega
      rw [List.take_of_length_le (by omega)]
      have hl := hws i
      rw [List.take_of_length_le (by omega)] at hl
      refine Ev.step (f := fun k => F.spec_OD39.j1 k t (ws39 ns) i 43 (decide ((i : Int) < (t.size : Int)))) (fun k => ?_) ?_
      · rw [F.spec_OD39.l0, if_pos (by omega), if_pos (by omega)]
      · rw [show decide ((i : Int) < (t.size : Int)) = false from decide_eq_false (by omega)]
        refine Ev.step (f := fun k => F.spec_OD39.j2 k t (ws39 ns) i 43) (fun k => ?_) ?_
        · rw [F.spec_OD39.j1, if_neg (by simp)]
        · refine Ev.step (f := fun k => (F.spec_odElements.f k bs 9 2).bind fun e => if (ws39 ns ++ [1]).length + e.length < 17592186044416 then F.spec_OD39.l0 k t (ws39 ns ++ [1] ++ e) ((i + 1 : Nat) : Int) else none) (fun k => ?_) (Ev.bind hes ?_)
          · rw [F.spec_OD39.j2, if_pos (by omega), if_pos (by omega), show wrap64 ((i : Int) + 1) = ((i + 1 : Nat) : Int) by unfold wrap64; omega]
            simp only [Option.bind_some]
            rw [show (43 : Int) = ((43 : Nat) : Int) from rfl, hbs]
            rfl
          · refine Ev.congr (fun k => ?_) hend
            rw [if_pos (by simp only [List.length_append, List.length_singleton, w9_length]; omega)]
    | succ d ih =>
      intro i hi
      obtain ⟨c, hc, hcn, hcl, hct⟩ := is39_get h i (by omega)
      obtain ⟨b, hb, he⟩ := elem39 c (by omega)
      rw [enc44_lt c hc] at he
      have hbt : bt t i = ((sg39.data.toList.getD c 0).toNat : Int) := by
        rw [← hct, ← bt_at t (i : Int) (by simp; omega)]
        rfl
      have hl := hws i
      have e1 : ws39 (ns.take (i + 1)) = ws39 (ns.take i) ++ [1] ++ w9 (enc39.getD c 0) := by
        have : ns[i]'hcl = c := by rw [← hcn, List.getD_eq_getElem?_getD, List.getElem?_eq_getElem hcl]; rfl
        unfold ws39
        rw [List.take_succ_eq_append_getElem hcl, List.flatMap_append, this]
        simp
      have h1 := ih (i + 1) (by omega)
      rw [e1] at h1
      refine Ev.step (f := fun k => F.spec_OD39.j1 k t (ws39 (ns.take i)) i 43 (decide ((i : Int) < (t.size : Int)))) (fun k => ?_) ?_
      · rw [F.spec_OD39.l0, if_pos (by omega), if_pos (by omega)]
      · rw [show decide ((i : Int) < (t.size : Int)) = true from decide_eq_true (by omega)]
        refine Ev.step (f := fun k => (F.spec_odAt.f k sg39 ((sg39.data.toList.getD c 0).toNat : Int)).bind fun q => F.spec_OD39.j2 k t (ws39 (ns.take i)) i q) (fun k => ?_) (Ev.bind (odAt39 c hc) ?_)
        · rw [F.spec_OD39.j1, if_pos rfl, if_pos (by omega), if_pos (by omega), hbt]
          rfl
        · refine Ev.step (f := fun k => (F.spec_odElements.f k b 9 2).bind fun e => if (ws39 (ns.take i) ++ [1]).length + e.length < 17592186044416 then F.spec_OD39.l0 k t (ws39 (ns.take i) ++ [1] ++ e) ((i + 1 : Nat) : Int) else none) (fun k => ?_) (Ev.bind he ?_)
          · rw [F.spec_OD39.j2, if_pos (by omega), if_pos (by omega), show wrap64 ((i : Int) + 1) = ((i + 1 : Nat) : Int) by unfold wrap64; omega]
            simp only [Option.bind_some, hb]
          · refine Ev.congr (fun k => ?_) h1
            rw [if_pos (by simp only [List.length_append, List.length_singleton, w9_length]; omega)]
  have h0 := hmain n 0 (by omega)
  have e0 : ws39 (ns.take 0) = [] ++ w9 148 := by simp [ws39]
  rw [e0] at h0
  refine Ev.congr (g := fun k => F.spec_OD39.f k t) (f := fun k => F.spec_OD39.l0 k t [] (-1)) (fun k => rfl) ?_
  refine Ev.step (f := fun k => F.spec_OD39.j1 k t [] (-1) 43 false) (fun k => ?_) ?_
  · rw [F.spec_OD39.l0, if_pos (by omega), if_neg (by omega)]
  · refine Ev.step (f := fun k => F.spec_OD39.j2 k t [] (-1) 43) (fun k => ?_) ?_
    · rw [F.spec_OD39.j1, if_neg (by simp)]
    · refine Ev.step (f := fun k => (F.spec_odElements.f k bs 9 2).bind fun e => if ([] : List Int).length + e.length < 17592186044416 then F.spec_OD39.l0 k t ([] ++ e) ((0 : Nat) : Int) else none) (fun k => ?_) (Ev.bind hes ?_)
      · rw [F.spec_OD39.j2, if_neg (by omega), show wrap64 ((-1 : Int) + 1) = ((0 : Nat) : Int) by unfold wrap64; omega]
        rw [show (43 : Int) = ((43 : Nat) : Int) from rfl, hbs]
        rfl
      · refine Ev.congr (fun k => ?_) h0
        rw [if_pos (by simp [w9_length])]

/-! ### Code 93: the reference -/
def asc (l : List Int) (most : Nat) : List Int := (l.take most).map (· % 128)
theorem asc_snoc (l : List Int) (i : Nat) (h : i < l.length) : asc l (i + 1) = asc l i ++ [rd l i % 128] := by
  unfold asc
  rw [List.take_succ_eq_append_getElem h, List.map_append]
  have : rd l (i : Int) = l[i] := by unfold rd; rw [Int.toNat_natCast, List.getD_eq_getElem?_getD, List.getElem?_eq_getElem h]; rfl
  rw [this]; rfl
theorem asc_run (l : List Int) (hl : ∀ v ∈ l, 0 ≤ v ∧ v ≤ 255) (most : Nat) (hm : most ≤ 1000) :
    ∀ (d i : Nat), i + d = min l.length most → Ev (fun k => F.spec_ODAscii.l0 k l most (asc l i) i) (strOfNums (asc l most)) := by
  intro d
  induction d with
  | zero =>
    intro i hi
    have e : asc l i = asc l most := by
      unfold asc
      rcases Nat.le_total l.length most with h | h
      · rw [List.take_of_length_le (by omega), List.take_of_length_le h]
      · rw [show i = most by omega]
    refine Ev.step (f := fun _ => some (strOfNums (asc l most))) (fun k => ?_) (Ev.now _)
    rw [F.spec_ODAscii.l0, e]
    by_cases h : (i : Int) < (l.length : Int)
    · rw [if_pos h, if_neg (by omega)]
    · rw [if_neg h]
  | succ d ih =>
    intro i hi
    have hil : i < l.length := by omega
    refine Ev.step (fun k => ?_) (ih (i + 1) (by omega))
    have hr : 0 ≤ rd l i := by
      have : rd l (i : Int) = l[i] := by unfold rd; rw [Int.toNat_natCast, List.getD_eq_getElem?_getD, List.getElem?_eq_getElem hil]; rfl
      rw [this]; exact (hl _ (List.getElem_mem hil)).1
    rw [F.spec_ODAscii.l0, if_pos (by omega), if_pos (by omega), if_pos (by omega), if_pos (by unfold asc; rw [List.length_map, List.length_take]; omega), asc_snoc l i hil, show wrap64 ((i : Int) + 1) = ((i + 1 : Nat) : Int) by unfold wrap64; omega]
    rw [Int.tmod_eq_emod_of_nonneg hr]
theorem ascE (l : List Int) (hl : ∀ v ∈ l, 0 ≤ v ∧ v ≤ 255) (most : Nat) (hm : most ≤ 1000) : Ev (fun k => F.spec_ODAscii.f k l most) (strOfNums (asc l most)) := asc_run l hl most hm (min l.length most) 0 (by omega)
theorem asc_rng (l : List Int) (most : Nat) : ∀ x ∈ asc l most, 0 ≤ x ∧ x < 128 := by
  intro x hx
  obtain ⟨v, _, rfl⟩ := List.mem_map.1 hx
  omega
theorem asc_len (l : List Int) (most : Nat) : (asc l most).length ≤ most := by unfold asc; rw [List.length_map, List.length_take]; omega
theorem rng_256 {xs : List Int} (h : ∀ x ∈ xs, 0 ≤ x ∧ x < 128) : ∀ x ∈ xs, 0 ≤ x ∧ x < 256 := fun x hx => by have := h x hx; omega
theorem bytesOf_str9 (xs : List Int) (h : ∀ x ∈ xs, 0 ≤ x ∧ x < 256) : bytesOf (strOfNums xs) = xs := by
  unfold bytesOf strOfNums
  simp only [List.map_map]
  conv => rhs; rw [← List.map_id xs]
  apply List.map_congr_left
  intro x hx
  have := h x hx
  show ((UInt8.ofNat x.toNat).toNat : Int) = x
  have e : (UInt8.ofNat x.toNat).toNat = x.toNat % 256 := rfl
  rw [e]; omega
theorem asc_bt (l : List Int) (most : Nat) (i : Nat) : bt (strOfNums (asc l most)) i < 128 := by
  rw [← rd_bytesOf, bytesOf_str9 _ (rng_256 (asc_rng l most))]
  unfold rd
  rw [List.getD_eq_getElem?_getD]
  rcases Nat.lt_or_ge (i : Int).toNat (asc l most).length with h | h
  · rw [List.getElem?_eq_getElem h]; exact (asc_rng l most _ (List.getElem_mem h)).2
  · rw [List.getElem?_eq_none h]; decide

/-- What one byte comes to, by the reference's own functions: a finite look. -/
def one93 (c : Nat) : ByteArray := ⟨#[UInt8.ofNat c]⟩
def pair39 (c : Nat) : ByteArray := ((F.spec_OD39Pairs.f 8 (one93 c)).getD ⟨#[]⟩)
def k93 (c : Nat) : Int := (F.spec_odAt.f 8 ⟨#[36, 37, 47, 43]⟩ (bt (pair39 c) 0)).getD 0
def plain93 (c : Nat) : Bool := c == 36 || c == 37 || c == 43 || c == 47
theorem look93 : ∀ c : Fin 128, F.spec_OD39Pairs.f 8 (one93 c.val) = some (pair39 c.val) ∧ (plain93 c.val = true → ext93 ((c.val : Nat) : Int) = [((c.val : Nat) : Int)]) ∧
    (plain93 c.val = false → ((pair39 c.val).size = 2 ∧ F.spec_odAt.f 8 ⟨#[36, 37, 47, 43]⟩ (bt (pair39 c.val) 0) = some (k93 c.val) ∧ 0 ≤ k93 c.val ∧ k93 c.val ≤ 3 ∧ ((⟨#[97, 98, 99, 100]⟩ : ByteArray).extract (k93 c.val).toNat ((k93 c.val) + 1).toNat) ++ ((pair39 c.val).extract 1 (pair39 c.val).size) = strOfNums (ext93 ((c.val : Nat) : Int))) ∨
      ((pair39 c.val).size = 1 ∧ pair39 c.val = strOfNums (ext93 ((c.val : Nat) : Int)))) := by decide +kernel
/-- The same, the values nameless. -/
theorem look93e (c : Nat) (h : c < 128) : ∃ (P : ByteArray) (K : Int), F.spec_OD39Pairs.f 8 (one93 c) = some P ∧ ((plain93 c = true ∧ ext93 (c : Int) = [(c : Int)]) ∨
    (plain93 c = false ∧ P.size = 2 ∧ F.spec_odAt.f 8 ⟨#[36, 37, 47, 43]⟩ (bt P 0) = some K ∧ 0 ≤ K ∧ K ≤ 3 ∧ ((⟨#[97, 98, 99, 100]⟩ : ByteArray).extract K.toNat (K + 1).toNat) ++ (P.extract 1 P.size) = strOfNums (ext93 (c : Int))) ∨
      (plain93 c = false ∧ P.size = 1 ∧ P = strOfNums (ext93 (c : Int)))) := by
  obtain ⟨h0, h1, h2⟩ := look93 ⟨c, h⟩
  refine ⟨pair39 c, k93 c, h0, ?_⟩
  cases hp : plain93 c with
  | true => exact .inl ⟨rfl, h1 hp⟩
  | false =>
    rcases h2 hp with ⟨a1, a2, a3, a4, a5⟩ | ⟨a1, a2⟩
    · exact .inr (.inl ⟨rfl, a1, a2, a3, a4, a5⟩)
    · exact .inr (.inr ⟨rfl, a1, a2⟩)
theorem str_append (a b : List Int) : strOfNums a ++ strOfNums b = strOfNums (a ++ b) := by
  have : (strOfNums a ++ strOfNums b).data.toList = (strOfNums (a ++ b)).data.toList := by
    rw [ba_append]; simp [strOfNums]
  have h2 := Array.toList_inj.1 this
  cases hx : strOfNums a ++ strOfNums b with
  | mk d => cases hy : strOfNums (a ++ b) with
    | mk d2 => rw [hx, hy] at h2; exact congrArg ByteArray.mk h2
theorem str_size9 (xs : List Int) : (strOfNums xs).size = xs.length := by
  rw [← data_length]; simp [strOfNums]
theorem ext_one (t : ByteArray) (i : Nat) (h : i < t.size) : t.extract i (i + 1) = one93 (bt t i).toNat := by
  have hl : i < t.data.toList.length := by rw [data_length]; exact h
  have e1 : (t.extract i (i + 1)).data.toList = [t[i]'h] := by
    rw [Lib.extract_data, show i + 1 - i = 1 by omega, List.drop_eq_getElem_cons hl]
    rfl
  have e2 : (one93 (bt t i).toNat).data.toList = [t[i]'h] := by
    unfold one93
    rw [← bt_get93 t i h]
    simp
  have h2 := Array.toList_inj.1 (e1.trans e2.symm)
  cases hx : t.extract i (i + 1) with
  | mk d => cases hy : one93 (bt t i).toNat with
    | mk d2 => rw [hx, hy] at h2; exact congrArg ByteArray.mk h2
theorem sh93_run (t : ByteArray) (n : Nat) (hn : t.size = n) (hm : n ≤ 1000) (ha : ∀ i : Nat, bt t i < 128) :
    ∀ (d i : Nat), i + d = n → Ev (fun k => F.spec_OD93Shifted.l0 k t (strOfNums (ex93 t i)) i) (strOfNums (ex93 t n)) := by
  intro d
  induction d with
  | zero =>
    intro i hi
    obtain rfl : i = n := by omega
    refine Ev.step (f := fun _ => some (strOfNums (ex93 t i))) (fun k => ?_) (Ev.now _)
    rw [F.spec_OD93Shifted.l0, if_neg (by omega)]
  | succ d ih =>
    intro i hi
    have hit : i < t.size := by omega
    have hb := ha i
    have hb0 := bt_range t i
    obtain ⟨c, hc⟩ : ∃ c, (bt t i).toNat = c := ⟨_, rfl⟩
    have hbc : bt t i = (c : Int) := by omega
    obtain ⟨P, K, hp, h2⟩ := look93e c (by omega)
    have HP := Aside0.mk hp
    have H2 := Aside0.mk h2
    clear hp h2
    have hone : t.extract i (i + 1) = one93 c := by rw [ext_one t i hit, hc]
    have hnext := ih (i + 1) (by omega)
    rw [ex93_succ t i hit, hbc, ← str_append] at hnext
    have hxl := ex93_le t i (by omega)
    have hel := ext93_le (c : Int)
    have HW := Aside0.mk (show wrap64 ((i : Int) + 1) = ((i + 1 : Nat) : Int) by unfold wrap64; omega)
    refine Ev.step (f := fun k => F.spec_OD93Shifted.j1 k t (strOfNums (ex93 t i)) i (plain93 c)) (fun k => ?_) ?_
    · rw [F.spec_OD93Shifted.l0, if_pos (by omega), if_pos (by omega), hbc]
      unfold plain93
      by_cases e1 : c = 36
      · subst e1; rfl
      by_cases e2 : c = 37
      · subst e2; rfl
      by_cases e3 : c = 43
      · subst e3; rfl
      by_cases e4 : c = 47
      · subst e4; rfl
      rw [if_neg (by omega), if_neg (by omega), if_neg (by omega)]
      congr 1
      rw [Bool.eq_iff_iff]
      simp [e1, e2, e3, e4]
      omega
    · rcases H2.out with ⟨hpl, h1⟩ | h2
      · rw [hpl]
        refine Ev.step (fun k => ?_) hnext
        have hs : (t.extract i (i + 1)).size = 1 := by rw [hone]; rfl
        have he : one93 c = strOfNums (ext93 (c : Int)) := by
          rw [h1]; unfold one93 strOfNums; simp
        rw [F.spec_OD93Shifted.j1, if_pos rfl, HW.out, if_pos (by omega), if_pos (by omega), if_pos (by omega), Int.toNat_natCast, Int.toNat_natCast, hs, if_pos (by rw [str_size9]; omega), hone, he]
      · have HPE := Aside0.mk (show Ev (fun k => F.spec_OD39Pairs.f k (one93 c)) P from Ev.of (F.spec_OD39Pairs.mono _) HP.out)
        clear H2 HP
        rcases h2 with ⟨hpl, hs, hat, hk0, hk3, he⟩ | ⟨hpl, hs, he⟩
        · rw [hpl]
          have hae : Ev (fun k => F.spec_odAt.f k ⟨#[36, 37, 47, 43]⟩ (bt P 0)) K := Ev.of (F.spec_odAt.mono _ _) hat
          have HAE := Aside0.mk hae
          have HE := Aside0.mk he
          clear hae he hat hpl
          refine Ev.step (f := fun k => (F.spec_OD39Pairs.f k (one93 c)).bind fun t182 => (if (t182.size : Int) = 2 then (if 0 < (t182.size : Int) then ((F.spec_odAt.f k (⟨#[36, 37, 47, 43]⟩ : ByteArray) (bt t182 0)).bind fun t183 => (if 0 ≤ t183 then (if t183 ≤ (wrap64 (t183 + 1)) then (if (wrap64 (t183 + 1)) ≤ 4 then (if 1 ≤ (t182.size : Int) then (if ((⟨#[97, 98, 99, 100]⟩ : ByteArray).extract (t183 : Int).toNat ((wrap64 (t183 + 1)) : Int).toNat).size + (t182.extract 1 t182.size).size ≤ 9223372036854775807 then (if (strOfNums (ex93 t i)).size + (((⟨#[97, 98, 99, 100]⟩ : ByteArray).extract (t183 : Int).toNat ((wrap64 (t183 + 1)) : Int).toNat) ++ (t182.extract 1 t182.size)).size ≤ 9223372036854775807 then (F.spec_OD93Shifted.l0 k t ((strOfNums (ex93 t i)) ++ (((⟨#[97, 98, 99, 100]⟩ : ByteArray).extract (t183 : Int).toNat ((wrap64 (t183 + 1)) : Int).toNat) ++ (t182.extract 1 t182.size))) ((i + 1 : Nat) : Int)) else (none)) else (none)) else (none)) else (none)) else (none)) else (none))) else (none)) else (if (strOfNums (ex93 t i)).size + t182.size ≤ 9223372036854775807 then (F.spec_OD93Shifted.l0 k t ((strOfNums (ex93 t i)) ++ t182) ((i + 1 : Nat) : Int)) else (none)))) (fun k => ?_) (Ev.bind HPE.out ?_)
          · rw [F.spec_OD93Shifted.j1, if_neg (by simp), if_pos (by omega), HW.out, if_pos (by omega), if_pos (by omega), Int.toNat_natCast, Int.toNat_natCast, hone]
          · have HWK := Aside0.mk (show wrap64 (K + 1) = K + 1 by unfold wrap64; omega)
            have hsz : ((⟨#[97, 98, 99, 100]⟩ : ByteArray).extract K.toNat (K + 1).toNat).size ≤ 4 := by rw [ByteArray.size_extract]; show _ - _ ≤ 4; have : (⟨#[97, 98, 99, 100]⟩ : ByteArray).size = 4 := rfl; omega
            have hsz2 : (P.extract 1 P.size).size ≤ 2 := by rw [ByteArray.size_extract]; omega
            refine Ev.congr (f := fun k => ((F.spec_odAt.f k (⟨#[36, 37, 47, 43]⟩ : ByteArray) (bt P 0)).bind fun t183 => (if 0 ≤ t183 then (if t183 ≤ (wrap64 (t183 + 1)) then (if (wrap64 (t183 + 1)) ≤ 4 then (if ((⟨#[97, 98, 99, 100]⟩ : ByteArray).extract (t183 : Int).toNat ((wrap64 (t183 + 1)) : Int).toNat).size + (P.extract 1 P.size).size ≤ 9223372036854775807 then (if (strOfNums (ex93 t i)).size + (((⟨#[97, 98, 99, 100]⟩ : ByteArray).extract (t183 : Int).toNat ((wrap64 (t183 + 1)) : Int).toNat) ++ (P.extract 1 P.size)).size ≤ 9223372036854775807 then (F.spec_OD93Shifted.l0 k t ((strOfNums (ex93 t i)) ++ (((⟨#[97, 98, 99, 100]⟩ : ByteArray).extract (t183 : Int).toNat ((wrap64 (t183 + 1)) : Int).toNat) ++ (P.extract 1 P.size))) ((i + 1 : Nat) : Int)) else (none)) else (none)) else (none)) else (none)) else (none)))) (fun k => ?_) (Ev.bind HAE.out ?_)
            · rw [if_pos (by omega), if_pos (by omega)]
              simp only [show (1 : Int) ≤ (P.size : Int) from by omega, if_true]
            · refine Ev.congr (fun k => ?_) hnext
              rw [if_pos hk0, HWK.out, if_pos (by omega), if_pos (by omega), if_pos (by omega), HE.out, if_pos (by rw [str_size9, str_size9]; omega)]
        · rw [hpl]
          refine Ev.step (f := fun k => (F.spec_OD39Pairs.f k (one93 c)).bind fun t182 => (if (t182.size : Int) = 2 then (if 0 < (t182.size : Int) then ((F.spec_odAt.f k (⟨#[36, 37, 47, 43]⟩ : ByteArray) (bt t182 0)).bind fun t183 => (if 0 ≤ t183 then (if t183 ≤ (wrap64 (t183 + 1)) then (if (wrap64 (t183 + 1)) ≤ 4 then (if 1 ≤ (t182.size : Int) then (if ((⟨#[97, 98, 99, 100]⟩ : ByteArray).extract (t183 : Int).toNat ((wrap64 (t183 + 1)) : Int).toNat).size + (t182.extract 1 t182.size).size ≤ 9223372036854775807 then (if (strOfNums (ex93 t i)).size + (((⟨#[97, 98, 99, 100]⟩ : ByteArray).extract (t183 : Int).toNat ((wrap64 (t183 + 1)) : Int).toNat) ++ (t182.extract 1 t182.size)).size ≤ 9223372036854775807 then (F.spec_OD93Shifted.l0 k t ((strOfNums (ex93 t i)) ++ (((⟨#[97, 98, 99, 100]⟩ : ByteArray).extract (t183 : Int).toNat ((wrap64 (t183 + 1)) : Int).toNat) ++ (t182.extract 1 t182.size))) ((i + 1 : Nat) : Int)) else (none)) else (none)) else (none)) else (none)) else (none)) else (none))) else (none)) else (if (strOfNums (ex93 t i)).size + t182.size ≤ 9223372036854775807 then (F.spec_OD93Shifted.l0 k t ((strOfNums (ex93 t i)) ++ t182) ((i + 1 : Nat) : Int)) else (none)))) (fun k => ?_) (Ev.bind HPE.out ?_)
          · rw [F.spec_OD93Shifted.j1, if_neg (by simp), if_pos (by omega), HW.out, if_pos (by omega), if_pos (by omega), Int.toNat_natCast, Int.toNat_natCast, hone]
          · refine Ev.congr (fun k => ?_) hnext
            rw [if_neg (by omega), if_pos (by rw [hs, str_size9]; omega), he]
theorem sh93 (t : ByteArray) (n : Nat) (hn : t.size = n) (hm : n ≤ 1000) (ha : ∀ i : Nat, bt t i < 128) : Ev (fun k => F.spec_OD93Shifted.f k t) (strOfNums (ex93 t n)) := sh93_run t n hn hm ha n 0 (by omega)

/-! ### Code 93: the reference's modules -/
def vi (ns : List Nat) : List Int := ns.map fun (n : Nat) => (n : Int)
theorem vi_len (ns : List Nat) : (vi ns).length = ns.length := by simp [vi]
theorem vi_rd (ns : List Nat) (i : Nat) : rd (vi ns) i = (ns.getD i 0 : Nat) := by
  unfold rd vi
  rw [Int.toNat_natCast, List.getD_eq_getElem?_getD, List.getD_eq_getElem?_getD, List.getElem?_map]
  cases ns[i]? <;> rfl
theorem vi_snoc (ns : List Nat) (c : Nat) : vi (ns ++ [c]) = vi ns ++ [(c : Int)] := by simp [vi]
theorem odAt93 (n : Nat) (hn : n < 47) : Ev (fun k => F.spec_odAt.f k (⟨#[48, 49, 50, 51, 52, 53, 54, 55, 56, 57, 65, 66, 67, 68, 69, 70, 71, 72, 73, 74, 75, 76, 77, 78, 79, 80, 81, 82, 83, 84, 85, 86, 87, 88, 89, 90, 45, 46, 32, 36, 47, 43, 37, 97, 98, 99, 100]⟩ : ByteArray) ((sg93.data.toList.getD n 0).toNat : Int)) (n : Int) := by
  refine odAt _ _ (by decide) n (by show n < 47; exact hn) ?_ ?_
  · intro i hi
    have : ∀ n : Fin 47, ∀ i : Fin 47, i.val < n.val → bt (⟨#[48, 49, 50, 51, 52, 53, 54, 55, 56, 57, 65, 66, 67, 68, 69, 70, 71, 72, 73, 74, 75, 76, 77, 78, 79, 80, 81, 82, 83, 84, 85, 86, 87, 88, 89, 90, 45, 46, 32, 36, 47, 43, 37, 97, 98, 99, 100]⟩ : ByteArray) (i.val : Int) ≠ ((sg93.data.toList.getD n 0).toNat : Int) := by decide +kernel
    exact this ⟨n, hn⟩ ⟨i, by omega⟩ hi
  · have : ∀ n : Fin 47, bt (⟨#[48, 49, 50, 51, 52, 53, 54, 55, 56, 57, 65, 66, 67, 68, 69, 70, 71, 72, 73, 74, 75, 76, 77, 78, 79, 80, 81, 82, 83, 84, 85, 86, 87, 88, 89, 90, 45, 46, 32, 36, 47, 43, 37, 97, 98, 99, 100]⟩ : ByteArray) (n.val : Int) = ((sg93.data.toList.getD n 0).toNat : Int) := by decide +kernel
    exact this ⟨n, hn⟩
theorem sum_run (ns : List Nat) (m : Nat) (hm0 : 0 < m) (hm2 : m ≤ 20) (hns : ∀ n ∈ ns, n < 47) (hl : ns.length ≤ 200) (x0 : List Int) (x4 : Int) (r : List Int)
    (hend : Ev (fun k => F.spec_OD93Checks.l0 k x0 (vi ns ++ [(chk93 ns m : Int)]) (wrap64 (x4 + 1))) r) :
    ∀ (d j : Nat), j + d = ns.length → Ev (fun k => F.spec_OD93Checks.l1 k x0 (vi ns) x4 m (csum ns m j : Nat) j) r := by
  intro d
  induction d with
  | zero =>
    intro j hj
    obtain rfl : j = ns.length := by omega
    refine Ev.step (fun k => ?_) hend
    rw [F.spec_OD93Checks.l1, if_neg (by rw [vi_len]; omega), if_pos (by rw [vi_len]; omega)]
    rfl
  | succ d ih =>
    intro j hj
    have hle := csum_le ns m hm0 hm2 hns j
    have hle2 := csum_le ns m hm0 hm2 hns (j + 1)
    have hj2 := ih (j + 1) (by omega)
    have E1 := Aside0.mk (show wrap64 (wrap64 (((vi ns).length : Int) - 1) - (j : Int)) = ((ns.length - 1 - j : Nat) : Int) by rw [vi_len]; unfold wrap64; omega)
    have E2 : Aside0 (wrap64 (1 + Int.tmod (j : Int) (m : Int)) = ((1 + j % m : Nat) : Int)) := by
      constructor
      rw [Int.tmod_eq_emod_of_nonneg (by omega)]
      have := Nat.mod_lt j hm0
      have e : (j : Int) % (m : Int) = ((j % m : Nat) : Int) := rfl
      rw [e]; unfold wrap64; omega
    obtain ⟨v, hv⟩ : ∃ v, ns.getD (ns.length - 1 - j) 0 = v := ⟨_, rfl⟩
    obtain ⟨q, hq⟩ : ∃ q, 1 + j % m = q := ⟨_, rfl⟩
    have hc : csum ns m (j + 1) = csum ns m j + v * q := by rw [csum, hv, hq]
    have hvq : v * q ≤ 1000000 := by omega
    obtain ⟨vq, hvqe⟩ : ∃ vq, v * q = vq := ⟨_, rfl⟩
    have E3 := Aside0.mk (show wrap64 ((v : Int) * (q : Int)) = (vq : Int) by have : (v : Int) * (q : Int) = (vq : Int) := by rw [← Int.natCast_mul, hvqe]
                                                                              rw [this]; unfold wrap64; omega)
    have E4 := Aside0.mk (show wrap64 (((csum ns m j : Nat) : Int) + (vq : Int)) = ((csum ns m (j + 1) : Nat) : Int) by rw [hc, hvqe]; unfold wrap64; omega)
    have E5 := Aside0.mk (show wrap64 ((j : Int) + 1) = ((j + 1 : Nat) : Int) by unfold wrap64; omega)
    have HV := Aside0.mk hv
    have HQ := Aside0.mk hq
    clear hv hq hc hvqe hle hle2 hvq
    refine Ev.step (fun k => ?_) hj2
    rw [F.spec_OD93Checks.l1, if_pos (by rw [vi_len]; omega), E1.out, if_pos (by omega), if_pos (by rw [vi_len]; omega), if_neg (by omega), vi_rd, HV.out, E2.out, HQ.out, E3.out, E4.out, E5.out]
theorem checks93 (ns : List Nat) (hns : ∀ n ∈ ns, n < 47) (hl : ns.length ≤ 150) : Ev (fun k => F.spec_OD93Checks.f k (vi ns)) [(chk93 ns 20 : Int), (chk93 (ns ++ [chk93 ns 20]) 15 : Int)] := by
  obtain ⟨c1, hc1⟩ : ∃ c1, chk93 ns 20 = c1 := ⟨_, rfl⟩
  have hc1l : c1 < 47 := by rw [← hc1]; exact chk93_lt _ _
  obtain ⟨c2, hc2⟩ : ∃ c2, chk93 (ns ++ [c1]) 15 = c2 := ⟨_, rfl⟩
  have hns2 : ∀ n ∈ ns ++ [c1], n < 47 := by
    intro n hn
    rcases List.mem_append.1 hn with h | h
    · exact hns n h
    · obtain rfl := List.mem_singleton.1 h; exact hc1l
  rw [hc1, hc2]
  have h2 : Ev (fun k => F.spec_OD93Checks.l0 k (vi ns) (vi (ns ++ [c1]) ++ [(c2 : Int)]) 2) [(c1 : Int), (c2 : Int)] := by
    refine Ev.step (f := fun _ => some [(c1 : Int), (c2 : Int)]) (fun k => ?_) (Ev.now _)
    rw [F.spec_OD93Checks.l0, if_neg (by omega), if_pos (by omega), if_pos (by rw [vi_snoc]; simp; omega), vi_snoc]
    simp
  have h1 : Ev (fun k => F.spec_OD93Checks.l0 k (vi ns) (vi (ns ++ [c1])) 1) [(c1 : Int), (c2 : Int)] := by
    refine Ev.step (fun k => ?_) (sum_run (ns ++ [c1]) 15 (by omega) (by omega) hns2 (by simp; omega) (vi ns) 1 _ (by rw [hc2, show wrap64 ((1 : Int) + 1) = 2 by unfold wrap64; omega]; exact h2) _ 0 (by rw [Nat.zero_add]))
    rw [F.spec_OD93Checks.l0, if_pos (by omega), show wrap64 (20 - wrap64 (5 * (1 : Int))) = 15 by unfold wrap64; omega]
    rfl
  have h0 : Ev (fun k => F.spec_OD93Checks.l0 k (vi ns) (vi ns) 0) [(c1 : Int), (c2 : Int)] := by
    refine Ev.step (fun k => ?_) (sum_run ns 20 (by omega) (by omega) hns (by omega) (vi ns) 0 _ (by rw [hc1, ← vi_snoc, show wrap64 ((0 : Int) + 1) = 1 by unfold wrap64; omega]; exact h1) _ 0 (by rw [Nat.zero_add]))
    rw [F.spec_OD93Checks.l0, if_pos (by omega), show wrap64 (20 - wrap64 (5 * (0 : Int))) = 20 by unfold wrap64; omega]
    rfl
  refine Ev.congr (fun k => ?_) h0
  unfold F.spec_OD93Checks.f
  rw [Option.bind_some, if_pos (by rw [vi_len]; simp; omega), List.nil_append]
theorem bits93 (n : Nat) (hn : n < 48) : F.spec_od93Bits.f (n : Int) = some (enc93.getD n 0) ∧ ∀ k : Fin 9, 0 ≤ IntKind.u64.wrap ((8 : Int) - (k.val : Nat)) ∧ ((Go.bits .and .i64 (shr .i64 (enc93.getD n 0) (IntKind.u64.wrap ((8 : Int) - (k.val : Nat)))) 1) == 1) = (Go.bits .and .i64 (enc93.getD n 0) (2 ^ (8 - k.val) : Nat) != 0) := by
  have : ∀ n : Fin 48, F.spec_od93Bits.f ((n.val : Nat) : Int) = some (enc93.getD n.val 0) ∧ ∀ k : Fin 9, 0 ≤ IntKind.u64.wrap ((8 : Int) - (k.val : Nat)) ∧ ((Go.bits .and .i64 (shr .i64 (enc93.getD n.val 0) (IntKind.u64.wrap ((8 : Int) - (k.val : Nat)))) 1) == 1) = (Go.bits .and .i64 (enc93.getD n.val 0) (2 ^ (8 - k.val) : Nat) != 0) := by decide +kernel
  exact this ⟨n, hn⟩
theorem mods_in (al : List Nat) (has : ∀ n ∈ al, n < 48) (i : Nat) (hi : i < al.length) (x : List Bool) (hx : x.length ≤ 1000000) (r : List Bool)
    (hend : Ev (fun k => F.spec_OD93.l1 k (vi al) (x ++ b9 (enc93.getD (al.getD i 0) 0)) (wrap64 ((i : Int) + 1))) r) :
    ∀ (d j : Nat), j + d = 9 → Ev (fun k => F.spec_OD93.l2 k (vi al) (x ++ (b9 (enc93.getD (al.getD i 0) 0)).take j) i (8 - (j : Int))) r := by
  obtain ⟨c, hc⟩ : ∃ c, al.getD i 0 = c := ⟨_, rfl⟩
  have hc48 : c < 48 := by rw [← hc, List.getD_eq_getElem?_getD, List.getElem?_eq_getElem hi]; exact has _ (List.getElem_mem hi)
  obtain ⟨hb, hbk⟩ := bits93 c hc48
  rw [hc] at hend ⊢
  obtain ⟨a, ha⟩ : ∃ a, enc93.getD c 0 = a := ⟨_, rfl⟩
  rw [ha] at hb hbk hend ⊢
  intro d
  induction d with
  | zero =>
    intro j hj
    obtain rfl : j = 9 := by omega
    rw [List.take_of_length_le (by rw [b9_length]; omega)]
    refine Ev.step (fun k => ?_) hend
    rw [F.spec_OD93.l2, if_neg (by omega)]
  | succ d ih =>
    intro j hj
    obtain ⟨h1, h2⟩ := hbk ⟨j, by omega⟩
    simp only at h1 h2
    have h3 := ih (j + 1) (by omega)
    rw [b9_take a j (by omega), ← List.append_assoc, ← h2] at h3
    refine Ev.step (fun k => ?_) h3
    rw [F.spec_OD93.l2, if_pos (by omega), if_pos (by omega), if_pos (by rw [vi_len]; omega), vi_rd, hc, hb, Option.bind_some, if_pos h1, if_pos (by rw [List.length_append, List.length_take, b9_length]; omega), show wrap64 (8 - (j : Int) - 1) = 8 - ((j + 1 : Nat) : Int) by unfold wrap64; omega]
theorem mods_out (al : List Nat) (has : ∀ n ∈ al, n < 48) (hl : al.length ≤ 1000) :
    ∀ (d i : Nat), i + d = al.length → Ev (fun k => F.spec_OD93.l1 k (vi al) (body93 (al.take i)) i) (body93 al ++ [true]) := by
  intro d
  induction d with
  | zero =>
    intro i hi
    obtain rfl : i = al.length := by omega
    rw [List.take_of_length_le (Nat.le_refl _)]
    refine Ev.step (f := fun _ => some (body93 al ++ [true])) (fun k => ?_) (Ev.now _)
    rw [F.spec_OD93.l1, if_neg (by rw [vi_len]; omega), if_pos (by rw [body93_length]; omega)]
  | succ d ih =>
    intro i hi
    have h1 := ih (i + 1) (by omega)
    rw [body93_snoc al i (by omega)] at h1
    have h2 := mods_in al has i (by omega) (body93 (al.take i)) (by rw [body93_length, List.length_take]; omega) _ (by rw [show wrap64 ((i : Int) + 1) = ((i + 1 : Nat) : Int) by unfold wrap64; omega]; exact h1) 9 0 (by omega)
    refine Ev.step (fun k => ?_) h2
    rw [F.spec_OD93.l1, if_pos (by rw [vi_len]; omega), List.take_zero, List.append_nil]
    rfl
theorem spec93 (T : ByteArray) (ns : List Nat) (n : Nat) (h : Is93 T ns) (hn : ns.length = n) (hn2 : n ≤ 80) : Ev (fun k => F.spec_OD93.f k T) (code93 ns) := by
  have hsz : T.size = n := by rw [is93_size h, hn]
  obtain ⟨c1, hc1⟩ : ∃ c1, chk93 ns 20 = c1 := ⟨_, rfl⟩
  have hc1l : c1 < 47 := by rw [← hc1]; exact chk93_lt _ _
  obtain ⟨c2, hc2⟩ : ∃ c2, chk93 (ns ++ [c1]) 15 = c2 := ⟨_, rfl⟩
  have hc2l : c2 < 47 := by rw [← hc2]; exact chk93_lt _ _
  have hck := checks93 ns h.2 (by omega)
  rw [hc1, hc2] at hck
  have hall : ∀ m ∈ [47] ++ ns ++ [c1, c2] ++ [47], m < 48 := by
    intro m hm
    simp only [List.mem_append, List.mem_cons, List.not_mem_nil, or_false] at hm
    rcases hm with ((rfl | hm) | rfl | rfl) | rfl
    · omega
    · have := h.2 m hm; omega
    · omega
    · omega
    · omega
  have hout := mods_out ([47] ++ ns ++ [c1, c2] ++ [47]) hall (by simp; omega) _ 0 (by rw [Nat.zero_add])
  have hcode : body93 ([47] ++ ns ++ [c1, c2] ++ [47]) ++ [true] = code93 ns := by
    unfold code93
    rw [hc1, hc2]
    unfold body93
    simp only [List.flatMap_append, List.flatMap_cons, List.flatMap_nil, List.append_nil, b9_350, List.append_assoc]
  rw [hcode] at hout
  have hvi : vi ([47] ++ ns ++ [c1, c2] ++ [47]) = [47] ++ vi ns ++ [(c1 : Int), (c2 : Int)] ++ [47] := by simp [vi]
  have hmain : ∀ (d i : Nat), i + d = n → Ev (fun k => F.spec_OD93.l0 k T (vi (ns.take i)) (i : Int)) (code93 ns) := by
    intro d
    induction d with
    | zero =>
      intro i hi
      obtain rfl : i = n := by omega
      rw [List.take_of_length_le (by omega)]
      refine Ev.step (f := fun k => (F.spec_OD93Checks.f k (vi ns)).bind fun t155 => (if ([47] ++ vi ns).length + t155.length < 17592186044416 then ((some ([47] ++ vi ns ++ t155 : List Int)).bind fun y158 => (if y158.length < 17592186044416 then (F.spec_OD93.l1 k (y158 ++ [47]) ([] : List Bool) 0) else (none))) else (none))) (fun k => ?_) (Ev.bind hck ?_)
      · rw [F.spec_OD93.l0, if_neg (by omega), Option.bind_some, if_pos (by rw [vi_len]; simp; omega), Option.bind_some]
      · refine Ev.congr (fun k => ?_) hout
        rw [if_pos (by simp [vi_len]; omega), Option.bind_some, if_pos (by simp [vi_len]; omega), hvi]
        rfl
    | succ d ih =>
      intro i hi
      obtain ⟨c, hc, hcn, hcl, hct⟩ := is93_get h i (by omega)
      have hbt : bt T i = ((sg93.data.toList.getD c 0).toNat : Int) := by
        rw [← hct, bt_get93 T i (by omega)]
      have h1 := ih (i + 1) (by omega)
      have e1 : vi (ns.take (i + 1)) = vi (ns.take i) ++ [(c : Int)] := by
        have : ns[i]'hcl = c := by rw [← hcn, List.getD_eq_getElem?_getD, List.getElem?_eq_getElem hcl]; rfl
        rw [List.take_succ_eq_append_getElem hcl, this, vi_snoc]
      rw [e1] at h1
      have hlen : (vi (ns.take i)).length ≤ 80 := by rw [vi_len, List.length_take]; omega
      refine Ev.step (f := fun k => (F.spec_odAt.f k (⟨#[48, 49, 50, 51, 52, 53, 54, 55, 56, 57, 65, 66, 67, 68, 69, 70, 71, 72, 73, 74, 75, 76, 77, 78, 79, 80, 81, 82, 83, 84, 85, 86, 87, 88, 89, 90, 45, 46, 32, 36, 47, 43, 37, 97, 98, 99, 100]⟩ : ByteArray) ((sg93.data.toList.getD c 0).toNat : Int)).bind fun t145 => (if (vi (ns.take i)).length < 17592186044416 then (F.spec_OD93.l0 k T (vi (ns.take i) ++ [t145]) ((i + 1 : Nat) : Int)) else (none))) (fun k => ?_) (Ev.bind (odAt93 c hc) ?_)
      · rw [F.spec_OD93.l0, if_pos (by omega), if_pos (by omega), hbt, show wrap64 ((i : Int) + 1) = ((i + 1 : Nat) : Int) by unfold wrap64; omega]
      · refine Ev.congr (fun k => ?_) h1
        rw [if_pos (by omega)]
  exact hmain n 0 (by omega)

set_option maxHeartbeats 2000000 in
set_option maxRecDepth 100000 in
theorem law93 (w : World) (A : Option Addr) (c : Nat) (l : List Int) (a b : Int) (hl : ∀ v ∈ l, 0 ≤ v ∧ v ≤ 255) (hC : Kd.C (Kd.int .u8) w A l.length l) (hc : l.length ≤ c) (hlen : l.length ≤ 9223372036854775807) (ha : 0 ≤ a ∧ a ≤ 65535) (hb : 0 ≤ b ∧ b ≤ 255) :
    Calls Tryz.prog 3 #[.slice A l.length c, .int .u16 a, .int .u8 b] w fun e w' => e = .returned (.bool true) ∧ Below w.heap.size w w' := by
  by_cases hz : l.length ≤ 2147483647
  · have HC := Aside0.mk hC
    have HL := Aside0.mk hl
    have HA := Aside0.mk ha
    have HB := Aside0.mk hb
    have hzz : decide ((2147483647 : Int) < (l.length : Int)) = false := decide_eq_false (by omega)
    clear hC hl ha hb hz hlen
    go_enter Tryz.func3, Tryz.ntmps3
    go_wp2_with fail
    obtain ⟨kA, hkA⟩ := (ascE l HL.out 40 (by omega)).rounds
    obtain ⟨t, ht⟩ : ∃ t : ByteArray, strOfNums (asc l 40) = t := ⟨_, rfl⟩
    rw [ht] at hkA
    have HKA := Aside0.mk hkA
    have hA128 : ∀ i : Nat, bt t i < 128 := fun i => by rw [← ht]; exact asc_bt l 40 i
    obtain ⟨n, hn⟩ : ∃ n, t.size = n := ⟨_, rfl⟩
    have hn40 : n ≤ 40 := by rw [← hn, ← ht, str_size9]; exact asc_len l 40
    have HA1 := Aside0.mk hA128
    have HN := Aside0.mk hn
    clear hkA ht hA128 hn
    refine (F.spec_ODAscii.calls kA A c l 40 t w HC.out hc HKA.out).mono ?_
    rintro e w1 ⟨rfl, hb1⟩
    have HB1 := Aside0.mk hb1
    clear hb1
    by_cases h2 : n = 0
    · have : t = ⟨#[]⟩ := by
        have h := HN.out
        rw [h2] at h
        have h3 : t.data = #[] := by
          have : t.data.size = 0 := h
          exact Array.eq_empty_of_size_eq_zero this
        cases t
        simp at h3
        rw [h3]
      subst this
      clear h2
      go_wp2
      go_ret
      exact ⟨rfl, HB1.out⟩
    · have hte : t.toList.isEmpty = false := by
        rw [ba_toList]
        cases hx : t.data.toList with
        | nil => exact absurd (by rw [← HN.out, ← data_length, hx]; rfl) h2
        | cons x y => rfl
      have HEX := Aside0.mk (fun W : World => ext149 W t n HN.out (by omega) HA1.out)
      have h93 := is93_ext t n HN.out HA1.out
      have hxl := ex93_le t n (by rw [HN.out]; omega)
      obtain ⟨ns, hns⟩ : ∃ ns, (ex93 t n).map ix93 = ns := ⟨_, rfl⟩
      have hnl : ns.length ≤ 80 := by rw [← hns, List.length_map]; omega
      obtain ⟨kS, hkS⟩ := (sh93 t n HN.out (by omega) HA1.out).rounds
      obtain ⟨TX, hTX⟩ : ∃ x, strOfNums (ex93 t n) = x := ⟨_, rfl⟩
      rw [hns, hTX] at h93
      rw [hTX] at HEX hkS
      have HKS := Aside0.mk hkS
      clear hns hTX hxl hkS
      obtain ⟨code, hcode⟩ : ∃ code, code93 ns = code := ⟨_, rfl⟩
      have hcl0 : code.length = (ns.length + 4) * 9 + 1 := by rw [← hcode, code93_length]
      have HENC := Aside0.mk (fun (gm : Nat) (W : World) => (show Calls Tryz.prog 147 #[.agg #[], .string t, .map (some gm)] W fun e w' => ∃ v, e = .returned (.tuple #[v, .nilIface]) ∧ Kd.R Kd.bool 4 w' W.heap.size (fun _ => True) v code ∧ Below W.heap.size W w' from by
        rw [← hcode]
        exact enc93_calls W _ t TX ns ns.length rfl hnl h93 HEX.out))
      obtain ⟨kk, hk⟩ := (spec93 TX ns ns.length h93 rfl hnl).rounds
      rw [hcode] at hk
      have HK := Aside0.mk hk
      have hclb : code.length ≤ 10000 := by omega
      have htp : 0 < t.size := by have := HN.out; omega
      clear hk hcode hcl0 hnl h93 h2
      have hcl : code.length ≤ 10000 := by omega
      have hw0 : 0 ≤ a % 3000 ∧ a % 3000 ≤ 100000 := by omega
      have hm0 : 0 ≤ 20 + b % 40 ∧ 20 + b % 40 ≤ 1000 ∧ 0 < (code.length : Int) + (20 + b % 40) := by omega
      obtain ⟨wd, hwd⟩ : ∃ wd, a % 3000 = wd := ⟨_, rfl⟩
      obtain ⟨mg, hmg⟩ : ∃ mg, 20 + b % 40 = mg := ⟨_, rfl⟩
      rw [hwd] at hw0
      rw [hmg] at hm0
      obtain ⟨hw0, hw1⟩ := hw0
      obtain ⟨hm0, hm1, hq0⟩ := hm0
      have HWD := Aside0.mk hwd
      have HMG := Aside0.mk hmg
      clear hwd hmg
      go_wp2_with fail
      refine (odWidths w1 a b HA.out HB.out).mono ?_
      rintro e w2 ⟨rfl, hb2⟩
      have HB2 := Aside0.mk (HB1.out.trans (hb2.mono HB1.out.size))
      clear hb2
      rw [HWD.out, HMG.out]
      go_wp2_with fail
      refine (odRowW_c93 w2 t wd mg code htp hw0 hq0 hm0 hm1 hw1 (by omega) HENC.out).mono ?_
      rintro e w3 ⟨bb, rfl, hbk, hb3⟩
      have HB3 := Aside0.mk (HB2.out.trans (hb3.mono HB2.out.size))
      have HBK := Aside0.mk hbk
      clear hb3 hbk hte
      obtain ⟨RN, hRN⟩ : ∃ n, (rowOf code wd mg).length = n := ⟨_, rfl⟩
      have HRN := Aside0.mk hRN
      rw [hRN]
      clear hRN
      go_wp2_with fail
      refine (F.spec_OD93Shifted.calls kS t TX _ HKS.out).mono ?_
      rintro e w31 ⟨rfl, hb31⟩
      have HBK31 := Aside0.mk (HBK.out.below hb31 HBK.out.lt)
      have HB31 := Aside0.mk (HB3.out.trans (hb31.mono HB3.out.size))
      clear hb31
      go_wp2_with fail
      refine (F.spec_OD93.calls kk TX code _ HK.out).mono ?_
      rintro e w4 ⟨v, rfl, hr4, hb4⟩
      obtain ⟨A4, c4, rfl, hc4, hC4⟩ := Kd.R_reads hr4
      have HBK4 := Aside0.mk (HBK31.out.below hb4 HBK31.out.lt)
      have HB4 := Aside0.mk (HB31.out.trans (hb4.mono HB31.out.size))
      have HC4 := Aside0.mk hC4
      clear hr4 hb4 hC4
      go_wp2_with fail
      refine (rowSpec w4 code wd mg A4 c4 hq0 hm0 hm1 hw0 hw1 (by omega) code.length rfl HC4.out hc4).mono ?_
      rintro e w5 ⟨A5, c5, rfl, hc5, hC5, hb5⟩
      have HBK5 := Aside0.mk (HBK4.out.below hb5 HBK4.out.lt)
      have HB5 := Aside0.mk (HB4.out.trans (hb5.mono HB4.out.size))
      have HC5 := Aside0.mk hC5
      have HC5' := Aside0.mk hc5
      clear hb5 hC5 hc5
      rw [HRN.out]
      go_wp2_with fail
      refine (rowSame w5 bb code wd mg A5 c5 hq0 hm1 hw1 (by omega) HBK5.out HC5.out HC5'.out RN HRN.out).mono ?_
      rintro e w6 ⟨rfl, hb6⟩
      have HB6 := Aside0.mk (HB5.out.trans (hb6.mono HB5.out.size))
      clear hb6
      go_wp2
      go_ret
      exact ⟨rfl, HB6.out⟩
  · have hzz : decide ((2147483647 : Int) < (l.length : Int)) = true := decide_eq_true (by omega)
    clear hC hl hz
    go_enter Tryz.func3, Tryz.ntmps3
    go_wp2
    go_ret
    exact ⟨rfl, Below.refl _ _⟩
theorem walk93 (w : World) (a0 : Option Addr) (len0 cap0 : Nat) (z0 : List Int) (a b : Int) (w0 : (a0 = none ∧ len0 = 0 ∧ cap0 = 0 ∧ z0 = []) ∨ ∃ x, a0 = some x ∧ len0 ≤ cap0 ∧ cap0 ≤ maxLen ∧ z0.length = cap0 ∧ (∀ i, i < z0.length → w.cell? (x.add i) = some (.int .u8 (z0.getD i 0))) ∧ ∀ n ∈ z0, (Lit.int .u8 n).wf = true)
    (wa : (Lit.int .u16 a).wf = true) (wb : (Lit.int .u8 b).wf = true) :
    Calls Tryz.prog 3 #[.slice a0 len0 cap0, .int .u16 a, .int .u8 b] w fun e w' => e = .returned (.bool true) ∧ Below w.heap.size w w' := by
  obtain ⟨l, rfl, hr, hm, hw, hc⟩ := ReadsInt.ofRowC w0
  exact law93 w a0 cap0 l a b (wf_bytes hw) (Kd.C_of_reads (d := (0 : Int)) (h1 := fun _ => rfl) hr) hc (by unfold maxLen at hm; omega) (wf_u16 wa) (wf_u8 wb)
end Go.Proofs.YthkddnmomjcdaaaGreat.B
