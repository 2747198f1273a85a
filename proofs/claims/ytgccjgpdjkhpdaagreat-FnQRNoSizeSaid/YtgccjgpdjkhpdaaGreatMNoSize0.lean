import Derived.Test.YtgccjgpdjkhpdaaGreatF0
import Derived.Great.Frames
import Derived.Laws.BitsAllLaws
import Derived.Laws.Bits128
import Derived.Laws.BitsLemmas
import Derived.Deep.RegionWith
import Derived.Deep.Grids
import Derived.Test.YtgccjgpdjkhpdaaGreatGNoSize1
namespace Go.Proofs.YtgccjgpdjkhpdaaGreat.B
open Go.RowKit Go.Proofs.YtgccjgpdjkhpdaaGreatW.PrintWords Go.Proofs.YtgccjgpdjkhpdaaGreatW.PrintLast Go.Proofs.YtgccjgpdjkhpdaaGreatW.PrintMore
set_option linter.unusedVariables false
set_option linter.unusedSimpArgs false

/-- Block g is just the cells cs of element type t, none frozen. -/
def Blk (w : World) (g : Nat) (t : TypeId) (cs : Array Value) : Prop := w.heap[g]? = some (.cells cs t (0, 0))
theorem Blk.cell {w : World} {g : Nat} {t : TypeId} {cs : Array Value} (h : Blk w g t cs) (i : Nat) : w.cell? ⟨g, i, none⟩ = cs[i]? := blk_cell h i
theorem Blk.frozen {w : World} {g : Nat} {t : TypeId} {cs : Array Value} (h : Blk w g t cs) (i : Nat) : w.frozen? ⟨g, i, none⟩ = false := blk_frozen h i
theorem Blk.lt {w : World} {g : Nat} {t : TypeId} {cs : Array Value} (h : Blk w g t cs) : g < w.heap.size := blk_lt h
theorem Blk.ucell {w : World} {g : Nat} {t : TypeId} {k : IntKind} {xs : List Int} (h : Blk w g t (nums k xs).toArray) (i : Int) (h0 : 0 ≤ i) (h1 : i < xs.length) : w.cell? ⟨g, i.toNat, none⟩ = some (.int k (rd xs i)) := by
  rw [h.cell]
  simp [nums, rd, List.getD, List.getElem?_eq_getElem (show i.toNat < xs.length by omega)]
theorem Blk.uset {w : World} {g : Nat} {t : TypeId} {k : IntKind} {xs : List Int} (h : Blk w g t (nums k xs).toArray) (i : Nat) (v : Int) : Blk (w.setCell ⟨g, i, none⟩ (.int k v)) g t (nums k (xs.set i v)).toArray := by
  have := blk_set h i (.int k v)
  unfold Blk
  rw [this]
  simp [nums, List.map_set]
theorem Blk.far {w : World} {g : Nat} {t : TypeId} {cs : Array Value} (h : Blk w g t cs) {p : Addr} (hp : g ≠ p.block) (u : Value) : Blk (w.setCell p u) g t cs := blk_far h hp u
theorem Blk.alloc {w : World} {g : Nat} {t : TypeId} {cs : Array Value} (h : Blk w g t cs) (o : Obj) : Blk (w.alloc o) g t cs := blk_alloc h o
theorem Blk.below {w w' : World} {g : Nat} {t : TypeId} {cs : Array Value} {B : Nat} (h : Blk w g t cs) (hb : Below B w w') (hg : g < B) : Blk w' g t cs := (hb.block g hg).trans h
theorem Blk.new (w : World) (t : TypeId) (cs : Array Value) : Blk (w.alloc (.cells cs t)) w.heap.size t cs := heap_alloc_new w _

theorem info130u : (Tryz.prog.info? 214).map (fun i => (i.zero, i.size, i.bytes)) = some (some (.int .u32 0), 1, 4) := by kernel_rfl
theorem run_make_rowN {P : Program} (t e : TypeId) (i : TypeInfo) (z : Value) (ht : P.underlying t = some (.slice e)) (hi : P.info? e = some i) (hz : i.zero = some z)
    (kl kc : IntKind) (n c : Nat) (hnc : n ≤ c) (hbytes : i.bytes * c ≤ 281474976710656) (h63 : c ≤ 9223372036854775807) (w : World) :
    (Instr.makeSlice t (.int kl (n : Int)) (.int kc (c : Int))).run P w = .ok (.slice (some ⟨w.heap.size, 0, none⟩) n c) (w.alloc (.cells (madeCells z.cells (c * i.size)) e)) := by
  have hb : (i.bytes : Int) * (c : Int) ≤ 281474976710656 := by
    have h : ((i.bytes * c : Nat) : Int) ≤ 281474976710656 := by omega
    rwa [Int.natCast_mul] at h
  have hr := run_make (P := P) w t e i z ht hi hz kl kc n c (by omega) (by omega) hb (by omega)
  simp only [Int.toNat_natCast] at hr
  exact hr
/-- make([]uint32, n) -/
theorem make_u32 (n : Nat) (h : n ≤ 1000000000) (w : World) : (Instr.makeSlice 199 (.int .i64 (n : Int)) (.int .i64 (n : Int))).run Tryz.prog w = .ok (.slice (some ⟨w.heap.size, 0, none⟩) n n) (w.alloc (.cells (nums .u32 (List.replicate n 0)).toArray 214)) := by
  obtain ⟨i, hi, hz, hs, hb⟩ := info_parts info130u
  have := run_make_rowN (P := Tryz.prog) 199 214 i (.int .u32 0) Tryz.underlying199 hi hz .i64 .i64 n n (Nat.le_refl _) (by rw [hb]; omega) (by omega) w
  have e : madeCells (Value.int .u32 0).cells (n * 1) = (nums .u32 (List.replicate n 0)).toArray := by
    apply Array.toList_inj.1
    rw [Nat.mul_one]
    exact (toList_madeCells_one _ _).trans (by simp [nums])
  rw [this, hs, e]

theorem newBM (w : World) (wd ht rs : Int) (N : Nat) (h1 : 1 ≤ wd) (h2 : 1 ≤ ht) (h3 : wd ≤ 100000000) (hrs : (wd + 31) / 32 = rs) (hn : rs * ht = (N : Int)) (hN : N ≤ 1000000000) :
    Calls Tryz.prog 147 #[.int .i64 wd, .int .i64 ht] w fun e w' => e = .returned (.tuple #[.pointer (some ⟨w.heap.size + 1, 0, none⟩), .nilIface]) ∧
      w' = (w.alloc (.cells (nums .u32 (List.replicate N 0)).toArray 214)).alloc (.cells #[.int .i64 wd, .int .i64 ht, .int .i64 rs, .slice (some ⟨w.heap.size, 0, none⟩) N N] 201) := by
  have hmk := make_u32 N hN
  have a1 : ¬ wd < 1 := by omega
  have a2 : ¬ ht < 1 := by omega
  have a3 : wrap64 (rs * ht) = (N : Int) := by rw [hn]; unfold wrap64; omega
  go_enter Tryz.func147, Tryz.ntmps147
  go_wp2
  go_ret2
  exact ⟨rfl, rfl⟩

/-- Just the block gb has turned. -/
structure Turn (w w' : World) (gb : Nat) : Prop where
  os : w'.os = w.os
  tape : w'.tape = w.tape
  output : w'.output = w.output
  size : w'.heap.size = w.heap.size
  block : ∀ k, k ≠ gb → w'.heap[k]? = w.heap[k]?
theorem Turn.refl (w : World) (gb : Nat) : Turn w w gb := ⟨rfl, rfl, rfl, rfl, fun _ _ => rfl⟩
theorem Turn.trans {a b c : World} {gb : Nat} (h : Turn a b gb) (k : Turn b c gb) : Turn a c gb := ⟨k.os.trans h.os, k.tape.trans h.tape, k.output.trans h.output, k.size.trans h.size, fun i hi => (k.block i hi).trans (h.block i hi)⟩
theorem Turn.set (w : World) (gb i : Nat) (u : Value) : Turn w (w.setCell ⟨gb, i, none⟩ u) gb := ⟨rfl, rfl, rfl, by simp [World.setCell], fun k hk => Below.heap_setCell w _ u k hk⟩
theorem Turn.blk {w w' : World} {gb g : Nat} {t : TypeId} {cs : Array Value} (h : Turn w w' gb) (hb : Blk w g t cs) (hne : g ≠ gb) : Blk w' g t cs := (h.block g hne).trans hb
theorem Turn.below {w w' : World} {gb B : Nat} (h : Turn w w' gb) (hB : B ≤ gb) : Below B w w' := ⟨h.os, h.tape, h.output, by rw [h.size]; exact Nat.le_refl _, fun k hk => h.block k (by omega)⟩

/-- The bit x of a row of bits from the word o on is set. -/
def orBit (xs : List Int) (o x : Int) : List Int := xs.set (o + x / 32).toNat (Go.bits .or .u32 (rd xs (o + x / 32)) (2 ^ (x % 32).toNat % 4294967296))
def sregX (xs : List Int) (o left : Int) : Nat → List Int
  | 0 => xs
  | n + 1 => orBit (sregX xs o left n) o (left + n)
def sreg (xs : List Int) (rs left : Int) (n : Nat) (top : Int) : Nat → List Int
  | 0 => xs
  | m + 1 => sregX (sreg xs rs left n top m) ((top + m) * rs) left n
theorem orBit_length (xs : List Int) (o x : Int) : (orBit xs o x).length = xs.length := by simp [orBit]
theorem sregX_length (xs : List Int) (o left : Int) (n : Nat) : (sregX xs o left n).length = xs.length := by
  induction n with
  | zero => rfl
  | succ n ih => rw [sregX, orBit_length, ih]
theorem sreg_length (xs : List Int) (rs left : Int) (n : Nat) (top : Int) (m : Nat) : (sreg xs rs left n top m).length = xs.length := by
  induction m with
  | zero => rfl
  | succ m ih => rw [sreg, sregX_length, ih]
theorem sregX_step (xs : List Int) (o left x : Int) (h : left ≤ x) : sregX xs o left (x + 1 - left).toNat = orBit (sregX xs o left (x - left).toNat) o x := by
  rw [show (x + 1 - left).toNat = (x - left).toNat + 1 by omega, sregX, show left + ((x - left).toNat : Int) = x by omega]
theorem sreg_step (xs : List Int) (rs left : Int) (n : Nat) (top y : Int) (h : top ≤ y) : sreg xs rs left n top (y + 1 - top).toNat = sregX (sreg xs rs left n top (y - top).toNat) (y * rs) left n := by
  rw [show (y + 1 - top).toNat = (y - top).toNat + 1 by omega, sreg, show top + ((y - top).toNat : Int) = y by omega]

set_option maxHeartbeats 1000000 in
theorem setRegion (w : World) (g gb : Nat) (wd ht rs left top n m : Int) (xs : List Int) (N : Nat)
    (hg : Blk w g 201 #[.int .i64 wd, .int .i64 ht, .int .i64 rs, .slice (some ⟨gb, 0, none⟩) N N]) (hb : Blk w gb 214 (nums .u32 xs).toArray) (hl : xs.length = N) (hN : N ≤ 1000000000)
    (hrs : (wd + 31) / 32 = rs) (hn : rs * ht = (N : Int)) (h0 : 0 ≤ left) (h1 : 0 ≤ top) (h2 : 1 ≤ n) (h3 : 1 ≤ m) (h4 : left + n ≤ wd) (h5 : top + m ≤ ht) (h6 : wd ≤ 100000000) (h7 : ht ≤ 100000000) :
    Calls Tryz.prog 142 #[.pointer (some ⟨g, 0, none⟩), .int .i64 left, .int .i64 top, .int .i64 n, .int .i64 m] w fun e w' => e = .returned .nilIface ∧
      Blk w' gb 214 (nums .u32 (sreg xs rs left n.toNat top m.toNat)).toArray ∧ Turn w w' gb := by
  have hne : g ≠ gb := blk_ne hg hb (by decide)
  have c0 : w.cell? ⟨g, 0, none⟩ = some (.int .i64 wd) := hg.cell 0
  have c1 : w.cell? ⟨g, 1, none⟩ = some (.int .i64 ht) := hg.cell 1
  have HG := Aside0.mk hg
  have HB := Aside0.mk hb
  have HL := Aside0.mk hl
  have HN := Aside0.mk hn
  have HR := Aside0.mk hrs
  clear hg hb hl hn hrs
  go_enter Tryz.func142, Tryz.ntmps142
  go_wp2
  go_loopw [13] (fun v wr => ∃ y : Int, top ≤ y ∧ y ≤ top + m ∧ v = .int .i64 y ∧ Aside0 (Blk wr gb 214 (nums .u32 (sreg xs rs left n.toNat top (y - top).toNat)).toArray) ∧ Aside0 (Turn w wr gb)) (fun v _ => (top + m - intOf v).toNat)
  case atStart => exact ⟨top, by omega, by omega, rfl, ⟨by rw [show (top - top).toNat = 0 by omega]; exact HB.out⟩, ⟨Turn.refl _ _⟩⟩
  case round =>
    obtain ⟨y, hy1, hy2, rfl, HY, HT⟩ := hrel
    clear c0 c1
    by_cases hlt : y < top + m
    · have hgr := HT.out.blk HG.out hne
      have c2 : wr.cell? ⟨g, 2, none⟩ = some (.int .i64 rs) := hgr.cell 2
      clear hgr
      obtain ⟨o, ho⟩ : ∃ o, y * rs = o := ⟨_, rfl⟩
      have ho1 : 0 ≤ o ∧ o + rs ≤ N := by
        have hr0 : 0 ≤ rs := by have := HR.out; omega
        have hq := HN.out
        have e1 := Int.mul_le_mul_of_nonneg_right (show y + 1 ≤ ht by omega) hr0
        have e2 : (y + 1) * rs = y * rs + rs := by rw [Int.add_mul, Int.one_mul]
        have e3 : ht * rs = rs * ht := Int.mul_comm _ _
        have e4 := Int.mul_nonneg (show 0 ≤ y by omega) hr0
        omega
      obtain ⟨ho1, ho2⟩ := ho1
      have hr0 : 0 ≤ rs := by have := HR.out; omega
      have how : wrap64 (y * rs) = o := by rw [ho]; unfold wrap64; omega
      have HO := Aside0.mk ho
      clear ho
      obtain ⟨ys, hys⟩ : ∃ ys, sreg xs rs left n.toNat top (y - top).toNat = ys := ⟨_, rfl⟩
      have hyl : ys.length = N := by rw [← hys, sreg_length, HL.out]
      rw [hys] at HY
      have HYS := Aside0.mk hys
      have HYL := Aside0.mk hyl
      clear hys hyl
      go_wp2
      obtain ⟨wo, rfl⟩ : ∃ wo : World, wo = wr := ⟨_, rfl⟩
      clear c2
      go_loopw [15] (fun v wi => ∃ x : Int, left ≤ x ∧ x ≤ left + n ∧ v = .int .i64 x ∧ Aside0 (Blk wi gb 214 (nums .u32 (sregX ys o left (x - left).toNat)).toArray) ∧ Aside0 (Turn wo wi gb)) (fun v _ => (left + n - intOf v).toNat)
      case atStart => exact ⟨left, by omega, by omega, rfl, ⟨by rw [show (left - left).toNat = 0 by omega]; exact HY.out⟩, ⟨Turn.refl _ _⟩⟩
      case round =>
        obtain ⟨x, hx1, hx2, rfl, HX, HU⟩ := hrel
        by_cases hlx : x < left + n
        · have hgr := HU.out.blk (HT.out.blk HG.out hne) hne
          have c3 : wr.cell? ⟨g, 3, none⟩ = some (.slice (some ⟨gb, 0, none⟩) N N) := hgr.cell 3
          clear hgr
          obtain ⟨zs, hzs⟩ : ∃ zs, sregX ys o left (x - left).toNat = zs := ⟨_, rfl⟩
          have hzl : zs.length = N := by rw [← hzs, sregX_length, HYL.out]
          rw [hzs] at HX
          have b0 : 0 ≤ o + x / 32 := by omega
          have b1 : o + x / 32 < (N : Int) := by have := HR.out; omega
          have c4 : wr.cell? ⟨gb, (o + x / 32).toNat, none⟩ = some (.int .u32 (rd zs (o + x / 32))) := HX.out.ucell _ b0 (by omega)
          have c5 := HX.out.frozen (o + x / 32).toNat
          have HZ := Aside0.mk hzs
          clear hzs hzl
          go_wp2
          go_roundw
          case rel => exact ⟨x + 1, by omega, by omega, by go_num, ⟨by rw [sregX_step _ _ _ _ hx1, HZ.out]; exact HX.out.uset _ _⟩, ⟨HU.out.trans (Turn.set _ _ _ _)⟩⟩
          case measure => simp [intOf]; omega
        · have : x = left + n := by omega
          subst this
          go_wp2
          go_roundw
          case rel => exact ⟨y + 1, by omega, by omega, by go_num, ⟨by rw [sreg_step _ _ _ _ _ _ hy1, HYS.out, HO.out]; have := HX.out; rwa [show (left + n - left).toNat = n.toNat by omega] at this⟩, ⟨HT.out.trans HU.out⟩⟩
          case measure => simp [intOf]; omega
    · have : y = top + m := by omega
      subst this
      go_wp2
      go_ret
      refine ⟨rfl, ?_, HT.out⟩
      have := HY.out
      rwa [show (top + m - top).toNat = m.toNat by omega] at this

/-- A row of bits as it is copied, word by word. -/
def cpy (xs ys : List Int) (o : Int) : Nat → List Int
  | 0 => ys
  | n + 1 => (cpy xs ys o n).set n (rd xs (o + n))
theorem cpy_length (xs ys : List Int) (o : Int) (n : Nat) : (cpy xs ys o n).length = ys.length := by
  induction n with
  | zero => rfl
  | succ n ih => rw [cpy, List.length_set, ih]

theorem Blk.bcell {w : World} {g : Nat} {t : TypeId} {xs : List Bool} (h : Blk w g t (bools xs).toArray) (i : Int) (h0 : 0 ≤ i) (h1 : i < xs.length) : w.cell? ⟨g, i.toNat, none⟩ = some (.bool (rdOf false xs i)) := by
  rw [h.cell]
  simp [bools, rdOf, List.getD, List.getElem?_eq_getElem (show i.toNat < xs.length by omega)]
theorem Blk.bset {w : World} {g : Nat} {t : TypeId} {xs : List Bool} (h : Blk w g t (bools xs).toArray) (i : Nat) (v : Bool) : Blk (w.setCell ⟨g, i, none⟩ (.bool v)) g t (bools (xs.set i v)).toArray := by
  have := blk_set h i (.bool v)
  unfold Blk
  rw [this]
  simp [bools, List.map_set]
theorem make_bool (n : Nat) (h : n ≤ 1000000000) (w : World) : (Instr.makeSlice 45 (.int .i64 (n : Int)) (.int .i64 (n : Int))).run Tryz.prog w = .ok (.slice (some ⟨w.heap.size, 0, none⟩) n n) (w.alloc (.cells (bools (List.replicate n false)).toArray 4)) := by
  obtain ⟨i, hi, hz, hs, hb⟩ := info_parts F.info4
  have := run_make_rowN (P := Tryz.prog) 45 4 i (.bool false) Tryz.underlying45 hi hz .i64 .i64 n n (Nat.le_refl _) (by rw [hb]; omega) (by omega) w
  have e : madeCells (Value.bool false).cells (n * 1) = (bools (List.replicate n false)).toArray := by
    apply Array.toList_inj.1
    rw [Nat.mul_one]
    exact (toList_madeCells_one _ _).trans (by simp [bools])
  rw [this, hs, e]

/-- The bit x of a row of bits. -/
def bitAt (xs : List Int) (x : Int) : Bool := Go.bits .and .u32 (rd xs (x / 32)) (2 ^ (x % 32).toNat % 4294967296) != 0
def unbits (xs : List Int) (n : Nat) : List Bool := (List.range n).map fun (i : Nat) => bitAt xs i
theorem unbits_set (xs : List Int) (n k : Nat) (hk : k < n) : (unbits xs k ++ List.replicate (n - k) false).set k (bitAt xs k) = unbits xs (k + 1) ++ List.replicate (n - (k + 1)) false := by
  have hl : (unbits xs k).length = k := by simp [unbits]
  rw [List.set_append_right _ _ (by omega), hl, Nat.sub_self, show n - k = (n - (k + 1)) + 1 by omega, List.replicate_succ, List.set_cons_zero]
  simp [unbits, List.range_succ]

/-! ### QR's versions -/
theorem ecb_count (w : World) (a b : Int) : Calls Tryz.prog 160 #[.agg #[.int .i64 a, .int .i64 b]] w fun e w' => e = .returned (.int .i64 a) ∧ Below w.heap.size w w' := by
  have hB := Aside0.mk (below_alloc (Below.refl w.heap.size w) (.cells #[.int .i64 a, .int .i64 b] 221))
  go_enter Tryz.func160, Tryz.ntmps160
  go_wp2
  go_ret
  refine ⟨rfl, ?_⟩
  first | exact Below.refl _ _ | exact hB.out | skip
theorem ecb_words (w : World) (a b : Int) : Calls Tryz.prog 161 #[.agg #[.int .i64 a, .int .i64 b]] w fun e w' => e = .returned (.int .i64 b) ∧ Below w.heap.size w w' := by
  have hB := Aside0.mk (below_alloc (Below.refl w.heap.size w) (.cells #[.int .i64 a, .int .i64 b] 221))
  go_enter Tryz.func161, Tryz.ntmps161
  go_wp2
  go_ret
  refine ⟨rfl, ?_⟩
  first | exact Below.refl _ _ | exact hB.out | skip
theorem ecbs_per (w : World) (g : Nat) (ec : Int) (h : w.cell? ⟨g, 0, none⟩ = some (.int .i64 ec)) : Calls Tryz.prog 158 #[.pointer (some ⟨g, 0, none⟩)] w fun e w' => e = .returned (.int .i64 ec) ∧ w = w' := by
  go_enter Tryz.func158, Tryz.ntmps158
  go_wp2
  go_ret
  exact ⟨rfl, rfl⟩
theorem ecbs_list (w : World) (g : Nat) (v : Value) (h : w.cell? ⟨g, 1, none⟩ = some v) : Calls Tryz.prog 159 #[.pointer (some ⟨g, 0, none⟩)] w fun e w' => e = .returned v ∧ w = w' := by
  go_enter Tryz.func159, Tryz.ntmps159
  go_wp2
  go_ret
  exact ⟨rfl, rfl⟩
theorem ver_num (w : World) (p : Nat) (v : Value) (h : w.cell? ⟨p, 0, none⟩ = some v) : Calls Tryz.prog 41 #[.pointer (some ⟨p, 0, none⟩)] w fun e w' => e = .returned v ∧ w = w' := by
  go_enter Tryz.func41, Tryz.ntmps41
  go_wp2
  go_ret
  exact ⟨rfl, rfl⟩
theorem ver_dim (w : World) (p : Nat) (n : Int) (h0 : 1 ≤ n ∧ n ≤ 40) (h : w.cell? ⟨p, 0, none⟩ = some (.int .i64 n)) : Calls Tryz.prog 86 #[.pointer (some ⟨p, 0, none⟩)] w fun e w' => e = .returned (.int .i64 (17 + 4 * n)) ∧ w = w' := by
  obtain ⟨h0, h1⟩ := h0
  go_enter Tryz.func86, Tryz.ntmps86
  go_wp2
  go_ret
  exact ⟨rfl, rfl⟩

/-! ### NewVersion -/
theorem ecb_count' (w : World) (a b : Int) : Calls Tryz.prog 160 #[.agg #[.int .i64 a, .int .i64 b]] w fun e w' => e = .returned (.int .i64 a) ∧ w' = w.alloc (.cells #[.int .i64 a, .int .i64 b] 221) := by
  go_enter Tryz.func160, Tryz.ntmps160
  go_wp2
  go_ret
  exact ⟨rfl, rfl⟩
theorem ecb_words' (w : World) (a b : Int) : Calls Tryz.prog 161 #[.agg #[.int .i64 a, .int .i64 b]] w fun e w' => e = .returned (.int .i64 b) ∧ w' = w.alloc (.cells #[.int .i64 a, .int .i64 b] 221) := by
  go_enter Tryz.func161, Tryz.ntmps161
  go_wp2
  go_ret
  exact ⟨rfl, rfl⟩
def ecbCells : List (Int × Int) → List Value
  | [] => []
  | p :: L => .int .i64 p.1 :: .int .i64 p.2 :: ecbCells L
def ecbTot (ec : Int) (L : List (Int × Int)) : Nat → Int
  | 0 => 0
  | n + 1 => ecbTot ec L n + (L.getD n (0, 0)).1 * ((L.getD n (0, 0)).2 + ec)
theorem ecbCells_at : ∀ (L : List (Int × Int)) (n : Nat), n < L.length → (ecbCells L)[2 * n]? = some (.int .i64 (L.getD n (0, 0)).1) ∧ (ecbCells L)[2 * n + 1]? = some (.int .i64 (L.getD n (0, 0)).2) := by
  intro L
  induction L with
  | nil => intro n h; cases h
  | cons p L ih =>
    intro n h
    cases n with
    | zero => exact ⟨rfl, rfl⟩
    | succ n =>
      have := ih n (by simpa using h)
      rw [show 2 * (n + 1) = 2 * n + 1 + 1 by omega]
      simpa [ecbCells] using this
theorem ecbCells_len : ∀ L : List (Int × Int), (ecbCells L).length = 2 * L.length := by
  intro L
  induction L with
  | nil => rfl
  | cons p L ih => simp [ecbCells, ih]; omega

set_option maxHeartbeats 1000000 in
theorem newVer (w : World) (n ec : Int) (gc m ge g0 : Nat) (k : Nat) (es : Array Value) (L : List (Int × Int)) (hk : k = L.length) (hk2 : L.length ≤ 100)
    (he : Blk w ge 224 es) (h0 : es[0]? = some (.int .i64 ec)) (h1 : es[1]? = some (.slice (some ⟨g0, 0, none⟩) k k)) (hg : Blk w g0 221 (ecbCells L).toArray)
    (hec : 0 ≤ ec ∧ ec ≤ 100) (hL : ∀ p ∈ L, 0 ≤ p.1 ∧ p.1 ≤ 100 ∧ 0 ≤ p.2 ∧ p.2 ≤ 1000) :
    Calls Tryz.prog 143 #[.int .i64 n, .slice (some ⟨gc, 0, none⟩) m m, .slice (some ⟨ge, 0, none⟩) 4 4] w fun e w' => ∃ p, e = .returned (.pointer (some ⟨p, 0, none⟩)) ∧ w.heap.size ≤ p ∧ Below w.heap.size w w' ∧
      Blk w' p 154 #[.int .i64 n, .slice (some ⟨gc, 0, none⟩) m m, .slice (some ⟨ge, 0, none⟩) 4 4, .int .i64 (ecbTot ec L L.length)] := by
  have c0 : w.cell? ⟨ge, 0, none⟩ = some (.int .i64 ec) := (he.cell 0).trans h0
  have c1 : w.cell? ⟨ge, 1, none⟩ = some (.slice (some ⟨g0, 0, none⟩) k k) := (he.cell 1).trans h1
  have HG := Aside0.mk hg
  have HE := Aside0.mk hec
  have HL := Aside0.mk hL
  have HK := Aside0.mk hk
  have k1 := ecbs_per w ge ec c0
  have k2 := ecbs_list w ge _ c1
  clear hg hec hL hk he h0 h1
  go_enter Tryz.func143, Tryz.ntmps143
  go_wp2_with (first | (go_at_call 158; refine k1.mono ?_; rintro e w' ⟨rfl, rfl⟩) | (go_at_call 159; refine k2.mono ?_; rintro e w' ⟨rfl, rfl⟩))
  clear k1 k2
  go_loopw [7, 20] (fun tv v wr => ∃ i : Nat, ∃ t : Int, i ≤ k ∧ v = .int .i64 (i : Int) ∧ tv = .int .i64 t ∧ 0 ≤ t ∧ t ≤ 110000 * i ∧ Aside0 (t = ecbTot ec L i) ∧ Aside0 (Below w.heap.size w wr)) (fun _ v _ => (k - intOf v).toNat)
  case atStart => exact ⟨0, 0, Nat.zero_le _, rfl, rfl, by omega, by omega, ⟨rfl⟩, ⟨Below.refl _ _⟩⟩
  case round =>
    obtain ⟨i, t, hi, rfl, rfl, ht0, ht1, HT, HB⟩ := hrel
    by_cases hlt : i < k
    · have hgr : Blk wr g0 221 (ecbCells L).toArray := HG.out.below HB.out HG.out.lt
      have hat := ecbCells_at L i (by have := HK.out; omega)
      obtain ⟨c, d, hcd⟩ : ∃ c d, L.getD i (0, 0) = (c, d) := ⟨_, _, rfl⟩
      have hmem : L.getD i (0, 0) ∈ L := by
        have : i < L.length := by have := HK.out; omega
        simp [List.getD, List.getElem?_eq_getElem this]
      have hbd := HL.out _ hmem
      rw [hcd] at hat hbd
      have hi100 : i < 100 := by have := HK.out; omega
      replace hbd : 0 ≤ c ∧ c ≤ 100 ∧ 0 ≤ d ∧ d ≤ 1000 := hbd
      obtain ⟨e1, e2, e3, e4⟩ := hbd
      have d0 : wr.cell? ⟨g0, i * 2, none⟩ = some (.int .i64 c) := (hgr.cell _).trans (by have := hat.1; rw [Nat.mul_comm] at this; simpa using this)
      have d1 : wr.cell? ⟨g0, i * 2 + 1, none⟩ = some (.int .i64 d) := (hgr.cell _).trans (by have := hat.2; rw [Nat.mul_comm] at this; simpa using this)
      obtain ⟨he1, he2⟩ := HE.out
      have m1 : 0 ≤ c * (d + ec) ∧ c * (d + ec) ≤ 110000 := by
        have a1 := Int.mul_nonneg e1 (show 0 ≤ d + ec by omega)
        have a2 := Int.mul_le_mul e2 (show d + ec ≤ 1100 by omega) (by omega) (by omega)
        omega
      obtain ⟨q, hq⟩ : ∃ q, c * (d + ec) = q := ⟨_, rfl⟩
      rw [hq] at m1
      obtain ⟨m1, m2⟩ := m1
      have w1 : wrap64 (d + ec) = d + ec := by unfold wrap64; omega
      have w2 : wrap64 (c * (d + ec)) = q := by rw [hq]; unfold wrap64; omega
      have w3 : wrap64 (t + q) = t + q := by unfold wrap64; omega
      have HM := Aside0.mk hq
      have HC := Aside0.mk hcd
      clear hq hcd hmem hat hgr c0 c1
      go_wp2
      go_region_with (first | (go_at_call 160; refine (ecb_count' _ c d).mono ?_; rintro e w' ⟨rfl, rfl⟩) | (go_at_call 161; refine (ecb_words' _ c d).mono ?_; rintro e w' ⟨rfl, rfl⟩))
      all_goals
        go_wp2
        go_roundw
        case rel => exact ⟨i + 1, t + q, by omega, by go_num, by rw [w2, w3], by omega, by omega, ⟨by rw [ecbTot, HC.out, ← HT.out, ← HM.out]⟩, ⟨by repeat (first | exact HB.out | apply below_alloc | apply pw_below_drewN | apply below_drew1)⟩⟩
        case measure => simp [intOf]; omega
    · have : i = k := by omega
      subst this
      go_wp2
      go_ret
      refine ⟨wr.heap.size, rfl, HB.out.size, below_alloc HB.out _, ?_⟩
      rw [← HK.out, ← HT.out]
      exact Blk.new _ _ _

/-! ### The table of versions -/
theorem wpList_build {P : Program} {ops : Array Oper} {rest : List Oper} {o : Oper} {a : Act} {Q : Exit → Act → World → Prop} {W W' : World} (hgd : o.guard = none) (t : TypeId) (len : Nat) (parts : Array (Nat × Operand)) (ho : o.op = .buildSlice t len parts)
    (vals : Array (Nat × Value)) (hv : (parts.map fun p => (p.1, a.eval p.2)) = vals) (v : Value) (hrun : (Instr.buildSlice t len vals).run P W = .ok v W') (k : wpList P ops Q rest (a.put o.dst v) W') : wpList P ops Q (o :: rest) a W := by
  refine wpList_plain hgd fun K hK => ?_
  subst hv
  unfold Oper.wp
  have e : (execOp a.eval o).run P W = .ok (.value v) W' := by
    unfold execOp
    rw [ho]
    simp only [Sem.run_bind]
    show Result.andThen ((Instr.buildSlice t len (parts.map fun p => (p.1, a.eval p.2))).run P W) _ = _
    rw [hrun]
    rfl
  rw [e]
  exact hK _ _ k
theorem wpList_buildV {P : Program} {ops : Array Oper} {rest : List Oper} {o : Oper} {a : Act} {Q : Exit → Act → World → Prop} {W W' : World} (hgd : o.guard = none) (t : TypeId) (parts : Array (Nat × Operand)) (ho : o.op = .build t parts)
    (vals : Array (Nat × Value)) (hv : (parts.map fun p => (p.1, a.eval p.2)) = vals) (v : Value) (hrun : (Instr.build t vals).run P W = .ok v W') (k : wpList P ops Q rest (a.put o.dst v) W') : wpList P ops Q (o :: rest) a W := by
  refine wpList_plain hgd fun K hK => ?_
  subst hv
  unfold Oper.wp
  have e : (execOp a.eval o).run P W = .ok (.value v) W' := by
    unfold execOp
    rw [ho]
    simp only [Sem.run_bind]
    show Result.andThen ((Instr.build t (parts.map fun p => (p.1, a.eval p.2))).run P W) _ = _
    rw [hrun]
    rfl
  rw [e]
  exact hK _ _ k
theorem wpList_assign {P : Program} {ops : Array Oper} {rest : List Oper} {o : Oper} {a : Act} {Q : Exit → Act → World → Prop} {W : World} (hgd : o.guard = none) (x : Operand) (ho : o.op = .assign x) (k : wpList P ops Q rest (a.put o.dst (a.eval x)) W) : wpList P ops Q (o :: rest) a W := by
  refine wpList_plain hgd fun K hK => ?_
  unfold Oper.wp
  have e : (execOp a.eval o).run P W = .ok (.value (a.eval x)) W := by
    unfold execOp
    rw [ho]
    rfl
  rw [e]
  exact hK _ _ k
theorem wpList_move {P : Program} {ops : Array Oper} {rest : List Oper} {o : Oper} {a : Act} {Q : Exit → Act → World → Prop} {W : World} (hgd : o.guard = none) (x : Operand) (ho : o.op = .move x) (k : wpList P ops Q rest (a.put o.dst (a.eval x)) W) : wpList P ops Q (o :: rest) a W := by
  refine wpList_plain hgd fun K hK => ?_
  unfold Oper.wp
  have e : (execOp a.eval o).run P W = .ok (.value (a.eval x)) W := by
    unfold execOp
    rw [ho]
    rfl
  rw [e]
  exact hK _ _ k
theorem run_eqlC (n k : Int) (x : Operand) (W : World) : (((do Go.eqGuard .eql 3 x (.const (.int .i64 k)) (.int .i64 n) (.int .i64 k); Go.binOp .eql 3 (.int .i64 n) (.int .i64 k)) : Sem Value)).run Tryz.prog W = .ok (.bool (n == k)) W := by
  first | kernel_rfl | rfl
theorem wpList_eqlC {ops : Array Oper} {rest : List Oper} {o : Oper} {a : Act} {Q : Exit → Act → World → Prop} {W : World} (hgd : o.guard = none) (x : Operand) (n k : Int) (ho : o.op = .binOp .eql 3 x (.const (.int .i64 k)) 3) (hx : a.eval x = .int .i64 n)
    (h : wpList Tryz.prog ops Q rest (a.put o.dst (.bool (n == k))) W) : wpList Tryz.prog ops Q (o :: rest) a W := by
  refine wpList_plain hgd fun K hK => ?_
  unfold Oper.wp
  have e : (execOp a.eval o).run Tryz.prog W = .ok (.value (.bool (n == k))) W := by
    unfold execOp
    rw [ho]
    simp only [hx]
    have hc : a.eval (.const (.int .i64 k)) = .int .i64 k := rfl
    rw [hc]
    first | done | rfl | trace_state
  rw [e]
  exact hK _ _ h
theorem run_empty64 (W : World) : (Instr.buildSlice 93 0 #[]).run Tryz.prog W = .ok (.slice (some ⟨W.heap.size, 0, none⟩) 0 0) (W.alloc (.cells #[] 3)) := by
  first | kernel_rfl | rfl
theorem run_ecb (c d : Int) (W : World) : (Instr.build 221 #[(0, .int .i64 c), (1, .int .i64 d)]).run Tryz.prog W = .ok (.agg #[.int .i64 c, .int .i64 d]) W := by
  first | kernel_rfl | rfl
theorem run_ecbs1 (c d : Int) (W : World) : (Instr.buildSlice 222 1 #[(0, .agg #[.int .i64 c, .int .i64 d])]).run Tryz.prog W = .ok (.slice (some ⟨W.heap.size, 0, none⟩) 1 1) (W.alloc (.cells #[.int .i64 c, .int .i64 d] 221)) := by
  first | kernel_rfl | rfl
theorem run_ecbs2 (c d e f : Int) (W : World) : (Instr.buildSlice 222 2 #[(0, .agg #[.int .i64 c, .int .i64 d]), (1, .agg #[.int .i64 e, .int .i64 f])]).run Tryz.prog W = .ok (.slice (some ⟨W.heap.size, 0, none⟩) 2 2) (W.alloc (.cells #[.int .i64 c, .int .i64 d, .int .i64 e, .int .i64 f] 221)) := by
  first | kernel_rfl | rfl
theorem run_blk (ec : Int) (g m : Nat) (W : World) : (Instr.build 224 #[(0, .int .i64 ec), (1, .slice (some ⟨g, 0, none⟩) m m)]).run Tryz.prog W = .ok (.agg #[.int .i64 ec, .slice (some ⟨g, 0, none⟩) m m]) W := by
  first | kernel_rfl | rfl
theorem run_blks (e0 e1 e2 e3 : Int) (g0 g1 g2 g3 m0 m1 m2 m3 : Nat) (W : World) : (Instr.buildSlice 152 4 #[(0, .agg #[.int .i64 e0, .slice (some ⟨g0, 0, none⟩) m0 m0]), (1, .agg #[.int .i64 e1, .slice (some ⟨g1, 0, none⟩) m1 m1]), (2, .agg #[.int .i64 e2, .slice (some ⟨g2, 0, none⟩) m2 m2]), (3, .agg #[.int .i64 e3, .slice (some ⟨g3, 0, none⟩) m3 m3])]).run Tryz.prog W = .ok (.slice (some ⟨W.heap.size, 0, none⟩) 4 4)
    (W.alloc (.cells #[.int .i64 e0, .slice (some ⟨g0, 0, none⟩) m0 m0, .int .i64 e1, .slice (some ⟨g1, 0, none⟩) m1 m1, .int .i64 e2, .slice (some ⟨g2, 0, none⟩) m2 m2, .int .i64 e3, .slice (some ⟨g3, 0, none⟩) m3 m3] 224)) := by
  first | kernel_rfl | rfl

/-! ### The versions' table as the code has it -/
abbrev VerRow := List Int × List (Int × List (Int × Int))
def verTab : List VerRow :=
  [([], [(7, [(1, 19)]), (10, [(1, 16)]), (13, [(1, 13)]), (17, [(1, 9)])]),
   ([6, 18], [(10, [(1, 34)]), (16, [(1, 28)]), (22, [(1, 22)]), (28, [(1, 16)])]),
   ([6, 22], [(15, [(1, 55)]), (26, [(1, 44)]), (18, [(2, 17)]), (22, [(2, 13)])]),
   ([6, 26], [(20, [(1, 80)]), (18, [(2, 32)]), (26, [(2, 24)]), (16, [(4, 9)])]),
   ([6, 30], [(26, [(1, 108)]), (24, [(2, 43)]), (18, [(2, 15), (2, 16)]), (22, [(2, 11), (2, 12)])]),
   ([6, 34], [(18, [(2, 68)]), (16, [(4, 27)]), (24, [(4, 19)]), (28, [(4, 15)])]),
   ([6, 22, 38], [(20, [(2, 78)]), (18, [(4, 31)]), (18, [(2, 14), (4, 15)]), (26, [(4, 13), (1, 14)])]),
   ([6, 24, 42], [(24, [(2, 97)]), (22, [(2, 38), (2, 39)]), (22, [(4, 18), (2, 19)]), (26, [(4, 14), (2, 15)])]),
   ([6, 26, 46], [(30, [(2, 116)]), (22, [(3, 36), (2, 37)]), (20, [(4, 16), (4, 17)]), (24, [(4, 12), (4, 13)])]),
   ([6, 28, 50], [(18, [(2, 68), (2, 69)]), (26, [(4, 43), (1, 44)]), (24, [(6, 19), (2, 20)]), (28, [(6, 15), (2, 16)])]),
   ([6, 30, 54], [(20, [(4, 81)]), (30, [(1, 50), (4, 51)]), (28, [(4, 22), (4, 23)]), (24, [(3, 12), (8, 13)])]),
   ([6, 32, 58], [(24, [(2, 92), (2, 93)]), (22, [(6, 36), (2, 37)]), (26, [(4, 20), (6, 21)]), (28, [(7, 14), (4, 15)])]),
   ([6, 34, 62], [(26, [(4, 107)]), (22, [(8, 37), (1, 38)]), (24, [(8, 20), (4, 21)]), (22, [(12, 11), (4, 12)])]),
   ([6, 26, 46, 66], [(30, [(3, 115), (1, 116)]), (24, [(4, 40), (5, 41)]), (20, [(11, 16), (5, 17)]), (24, [(11, 12), (5, 13)])]),
   ([6, 26, 48, 70], [(22, [(5, 87), (1, 88)]), (24, [(5, 41), (5, 42)]), (30, [(5, 24), (7, 25)]), (24, [(11, 12), (7, 13)])]),
   ([6, 26, 50, 74], [(24, [(5, 98), (1, 99)]), (28, [(7, 45), (3, 46)]), (24, [(15, 19), (2, 20)]), (30, [(3, 15), (13, 16)])]),
   ([6, 30, 54, 78], [(28, [(1, 107), (5, 108)]), (28, [(10, 46), (1, 47)]), (28, [(1, 22), (15, 23)]), (28, [(2, 14), (17, 15)])]),
   ([6, 30, 56, 82], [(30, [(5, 120), (1, 121)]), (26, [(9, 43), (4, 44)]), (28, [(17, 22), (1, 23)]), (28, [(2, 14), (19, 15)])]),
   ([6, 30, 58, 86], [(28, [(3, 113), (4, 114)]), (26, [(3, 44), (11, 45)]), (26, [(17, 21), (4, 22)]), (26, [(9, 13), (16, 14)])]),
   ([6, 34, 62, 90], [(28, [(3, 107), (5, 108)]), (26, [(3, 41), (13, 42)]), (30, [(15, 24), (5, 25)]), (28, [(15, 15), (10, 16)])]),
   ([6, 28, 50, 72, 94], [(28, [(4, 116), (4, 117)]), (26, [(17, 42)]), (28, [(17, 22), (6, 23)]), (30, [(19, 16), (6, 17)])]),
   ([6, 26, 50, 74, 98], [(28, [(2, 111), (7, 112)]), (28, [(17, 46)]), (30, [(7, 24), (16, 25)]), (24, [(34, 13)])]),
   ([6, 30, 54, 78, 102], [(30, [(4, 121), (5, 122)]), (28, [(4, 47), (14, 48)]), (30, [(11, 24), (14, 25)]), (30, [(16, 15), (14, 16)])]),
   ([6, 28, 54, 80, 106], [(30, [(6, 117), (4, 118)]), (28, [(6, 45), (14, 46)]), (30, [(11, 24), (16, 25)]), (30, [(30, 16), (2, 17)])]),
   ([6, 32, 58, 84, 110], [(26, [(8, 106), (4, 107)]), (28, [(8, 47), (13, 48)]), (30, [(7, 24), (22, 25)]), (30, [(22, 15), (13, 16)])]),
   ([6, 30, 58, 86, 114], [(28, [(10, 114), (2, 115)]), (28, [(19, 46), (4, 47)]), (28, [(28, 22), (6, 23)]), (30, [(33, 16), (4, 17)])]),
   ([6, 34, 62, 90, 118], [(30, [(8, 122), (4, 123)]), (28, [(22, 45), (3, 46)]), (30, [(8, 23), (26, 24)]), (30, [(12, 15), (28, 16)])]),
   ([6, 26, 50, 74, 98, 122], [(30, [(3, 117), (10, 118)]), (28, [(3, 45), (23, 46)]), (30, [(4, 24), (31, 25)]), (30, [(11, 15), (31, 16)])]),
   ([6, 30, 54, 78, 102, 126], [(30, [(7, 116), (7, 117)]), (28, [(21, 45), (7, 46)]), (30, [(1, 23), (37, 24)]), (30, [(19, 15), (26, 16)])]),
   ([6, 26, 52, 78, 104, 130], [(30, [(5, 115), (10, 116)]), (28, [(19, 47), (10, 48)]), (30, [(15, 24), (25, 25)]), (30, [(23, 15), (25, 16)])]),
   ([6, 30, 56, 82, 108, 134], [(30, [(13, 115), (3, 116)]), (28, [(2, 46), (29, 47)]), (30, [(42, 24), (1, 25)]), (30, [(23, 15), (28, 16)])]),
   ([6, 34, 60, 86, 112, 138], [(30, [(17, 115)]), (28, [(10, 46), (23, 47)]), (30, [(10, 24), (35, 25)]), (30, [(19, 15), (35, 16)])]),
   ([6, 30, 58, 86, 114, 142], [(30, [(17, 115), (1, 116)]), (28, [(14, 46), (21, 47)]), (30, [(29, 24), (19, 25)]), (30, [(11, 15), (46, 16)])]),
   ([6, 34, 62, 90, 118, 146], [(30, [(13, 115), (6, 116)]), (28, [(14, 46), (23, 47)]), (30, [(44, 24), (7, 25)]), (30, [(59, 16), (1, 17)])]),
   ([6, 30, 54, 78, 102, 126, 150], [(30, [(12, 121), (7, 122)]), (28, [(12, 47), (26, 48)]), (30, [(39, 24), (14, 25)]), (30, [(22, 15), (41, 16)])]),
   ([6, 24, 50, 76, 102, 128, 154], [(30, [(6, 121), (14, 122)]), (28, [(6, 47), (34, 48)]), (30, [(46, 24), (10, 25)]), (30, [(2, 15), (64, 16)])]),
   ([6, 28, 54, 80, 106, 132, 158], [(30, [(17, 122), (4, 123)]), (28, [(29, 46), (14, 47)]), (30, [(49, 24), (10, 25)]), (30, [(24, 15), (46, 16)])]),
   ([6, 32, 58, 84, 110, 136, 162], [(30, [(4, 122), (18, 123)]), (28, [(13, 46), (32, 47)]), (30, [(48, 24), (14, 25)]), (30, [(42, 15), (32, 16)])]),
   ([6, 26, 54, 82, 110, 138, 166], [(30, [(20, 117), (4, 118)]), (28, [(40, 47), (7, 48)]), (30, [(43, 24), (22, 25)]), (30, [(10, 15), (67, 16)])]),
   ([6, 30, 58, 86, 114, 142, 170], [(30, [(19, 118), (6, 119)]), (28, [(18, 47), (31, 48)]), (30, [(34, 24), (34, 25)]), (30, [(20, 15), (61, 16)])])]
abbrev OpKey := Op × Option Tmp × Option (Nat × Bool)
def keyOf (o : Oper) : OpKey := (o.op, o.dst, o.guard)
def ci (n : Int) : Operand := .const (.int .i64 n)
def ecbKeys : List (Int × Int) → Nat → List OpKey
  | [], _ => []
  | p :: L, i => (.build 221 #[(0, ci p.1), (1, ci p.2)], some i, none) :: ecbKeys L (i + 1)
def tmpsAt (i m : Nat) : Array (Nat × Operand) := ((List.range m).map fun j => (j, Operand.tmp (i + j))).toArray
def blkKeys (b : Int × List (Int × Int)) (i : Nat) : List OpKey :=
  ecbKeys b.2 i ++ [(.buildSlice 222 b.2.length (tmpsAt i b.2.length), some (i + b.2.length), none), (.build 224 #[(0, ci b.1), (1, .tmp (i + b.2.length))], some (i + b.2.length + 1), none)]
def blksKeys : List (Int × List (Int × Int)) → Nat → List OpKey
  | [], _ => []
  | b :: L, i => blkKeys b i ++ blksKeys L (i + b.2.length + 2)
def blksEnd : List (Int × List (Int × Int)) → Nat → Nat
  | [], i => i
  | b :: L, i => blksEnd L (i + b.2.length + 2)
def blksTmps : List (Int × List (Int × Int)) → Nat → List Operand
  | [], _ => []
  | b :: L, i => .tmp (i + b.2.length + 1) :: blksTmps L (i + b.2.length + 2)
def enum {α : Type} (L : List α) : Array (Nat × α) := (L.zipIdx.map fun p => (p.2, p.1)).toArray
def bodyKeys (n : Nat) (v : VerRow) (i : Nat) : List OpKey :=
  (.buildSlice 93 v.1.length (enum (v.1.map ci)), some i, none) :: (blksKeys v.2 (i + 1) ++
    [(.buildSlice 152 4 (enum (blksTmps v.2 (i + 1))), some (blksEnd v.2 (i + 1)), none),
     (.call { callee := .value (.func 143), args := #[ci n, .tmp i, .tmp (blksEnd v.2 (i + 1))], argTypes := #[3, 93, 152] }, some (blksEnd v.2 (i + 1) + 1), none),
     (.assign (.tmp (blksEnd v.2 (i + 1) + 1)), some 2, none)])
abbrev Arm := List OpKey × Operand × List OpKey
def armsFrom : Nat → Nat → List VerRow → List Arm
  | _, _, [] => []
  | n, s, v :: L => ([(.binOp .eql 3 (.tmp 3) (ci n) 3, some (s + 1), none), (.assign (.tmp (s + 1)), some s, none)], .tmp s, bodyKeys n v (s + 2)) :: armsFrom (n + 1) (blksEnd v.2 (s + 3) + 2) L
def unchain : Nat → Code → List Arm
  | 0, _ => []
  | f + 1, .seq (.region _ ops false) (.cond c (.seq (.region _ body false) .ret) rest) => (ops.toList.map keyOf, c, body.toList.map keyOf) :: unchain f rest
  | _, _ => []
def chainOf (f : Func) : Code := match f.body with
  | some (.seq _ (.seq (.seq _ (.block _ c)) _)) => c
  | _ => .skip
def headOf (f : Func) : Code := match f.body with
  | some (.seq a _) => a
  | _ => .skip
def head2Of (f : Func) : Code := match f.body with
  | some (.seq _ (.seq (.seq a _) _)) => a
  | _ => .skip
def tailOf (f : Func) : Code := match f.body with
  | some (.seq _ (.seq _ c)) => c
  | _ => .skip
theorem body62 : Tryz.f104.body = some (.seq (headOf Tryz.f104) (.seq (.seq (head2Of Tryz.f104) (.block 0 (chainOf Tryz.f104))) (tailOf Tryz.f104))) := by kernel_rfl
def regOps : Code → Array Oper
  | .region _ ops _ => ops
  | _ => #[]
theorem head62 : headOf Tryz.f104 = .region 0 (regOps (headOf Tryz.f104)) false ∧ (regOps (headOf Tryz.f104)).toList.map keyOf = [(.assign (.const (.pointer none)), some 2, none)] := ⟨by kernel_rfl, by kernel_rfl⟩
theorem head62b : head2Of Tryz.f104 = .region 1 (regOps (head2Of Tryz.f104)) false ∧ (regOps (head2Of Tryz.f104)).toList.map keyOf = [(.move (.tmp 0), some 3, none)] := ⟨by kernel_rfl, by kernel_rfl⟩
set_option maxRecDepth 100000 in
theorem chain62_eq : unchain 40 (chainOf Tryz.f104) = armsFrom 1 4 verTab := by kernel_rfl

/-! ### versionOf: forty arms, walked once -/
def WK (ops : Array Oper) (Q : Exit → Act → World → Prop) (keys : List OpKey) (a : Act) (W : World) : Prop := ∀ l : List Oper, l.map keyOf = keys → wpList Tryz.prog ops Q l a W
section
variable {ops : Array Oper} {Q : Exit → Act → World → Prop} {ks : List OpKey} {a : Act} {W W' : World}
theorem WK_cons {k : OpKey} (h : ∀ (o : Oper) (l : List Oper), o.op = k.1 → o.dst = k.2.1 → o.guard = k.2.2 → l.map keyOf = ks → wpList Tryz.prog ops Q (o :: l) a W) : WK ops Q (k :: ks) a W := by
  intro l hl
  cases l with
  | nil => cases hl
  | cons o l =>
    rw [List.map_cons] at hl
    injection hl with h1 h2
    subst h1
    exact h o l rfl rfl rfl h2
theorem WK_nil (h : Q .normal a W) : WK ops Q [] a W := by
  intro l hl
  cases l with
  | nil => exact h
  | cons o l => cases hl
theorem WK_build (t : TypeId) (parts : Array (Nat × Operand)) (d : Nat) (vals : Array (Nat × Value)) (hv : (parts.map fun p => (p.1, a.eval p.2)) = vals) (v : Value) (hrun : (Instr.build t vals).run Tryz.prog W = .ok v W')
    (k : WK ops Q ks (a.put (some d) v) W') : WK ops Q ((.build t parts, some d, none) :: ks) a W :=
  WK_cons fun o l h1 h2 h3 h4 => wpList_buildV h3 t parts h1 vals hv v hrun (by rw [h2]; exact k l h4)
theorem WK_slice (t : TypeId) (n : Nat) (parts : Array (Nat × Operand)) (d : Nat) (vals : Array (Nat × Value)) (hv : (parts.map fun p => (p.1, a.eval p.2)) = vals) (v : Value) (hrun : (Instr.buildSlice t n vals).run Tryz.prog W = .ok v W')
    (k : WK ops Q ks (a.put (some d) v) W') : WK ops Q ((.buildSlice t n parts, some d, none) :: ks) a W :=
  WK_cons fun o l h1 h2 h3 h4 => wpList_build h3 t n parts h1 vals hv v hrun (by rw [h2]; exact k l h4)
theorem WK_assign (x : Operand) (d : Nat) (k : WK ops Q ks (a.put (some d) (a.eval x)) W) : WK ops Q ((.assign x, some d, none) :: ks) a W :=
  WK_cons fun o l h1 h2 h3 h4 => wpList_assign h3 x h1 (by rw [h2]; exact k l h4)
theorem WK_move (x : Operand) (d : Nat) (k : WK ops Q ks (a.put (some d) (a.eval x)) W) : WK ops Q ((.move x, some d, none) :: ks) a W :=
  WK_cons fun o l h1 h2 h3 h4 => wpList_move h3 x h1 (by rw [h2]; exact k l h4)
theorem WK_eql (x : Operand) (n c : Int) (d : Nat) (hx : a.eval x = .int .i64 n) (k : WK ops Q ks (a.put (some d) (.bool (n == c))) W) : WK ops Q ((.binOp .eql 3 x (ci c) 3, some d, none) :: ks) a W :=
  WK_cons fun o l h1 h2 h3 h4 => wpList_eqlC h3 x n c h1 hx (by rw [h2]; exact k l h4)
theorem WK_call (op : Op) (d : Nat) (f : FuncId) (args : Array Value) (hrun : ∀ o : Oper, o.op = op → (execOp a.eval o).run Tryz.prog W = .ok (.enter f args) W) (R : Ending → World → Prop) (hc : Calls Tryz.prog f args W R)
    (k : ∀ e W', R e W' → ∃ v, e = .returned v ∧ WK ops Q ks (a.put (some d) v) W') : WK ops Q ((op, some d, none) :: ks) a W :=
  WK_cons fun o l h1 h2 h3 h4 => wpList_plain h3 fun K hK => by
    unfold Oper.wp
    rw [hrun o h1, Oper.upon_enter]
    refine hc.mono fun e w'' hh => ?_
    obtain ⟨v, rfl, hw⟩ := k e w'' hh
    refine hK _ _ ?_
    rw [h2]
    exact hw l h4
end
/-- a' is a but for slots from i on. -/
structure Ext (a a' : Act) (i : Nat) : Prop where
  size : a'.tmps.size = a.tmps.size
  defers : a'.defers = a.defers
  same : ∀ j, j < i → a'.eval (.tmp j) = a.eval (.tmp j)
theorem Ext.refl (a : Act) (i : Nat) : Ext a a i := ⟨rfl, rfl, fun _ _ => rfl⟩
theorem Ext.put {a a' : Act} {i : Nat} (h : Ext a a' i) (d : Nat) (v : Value) (hd : i ≤ d) : Ext a (a'.put (some d) v) i :=
  ⟨by rw [Act.size_put, h.size], by rw [Act.defers_put', h.defers], fun j hj => by rw [Act.eval_put_ne _ _ _ _ (by omega), h.same j hj]⟩
theorem Ext.trans {a b c : Act} {i j : Nat} (h : Ext a b i) (k : Ext b c j) (hij : i ≤ j) : Ext a c i := ⟨k.size.trans h.size, k.defers.trans h.defers, fun n hn => (k.same n (by omega)).trans (h.same n hn)⟩
theorem Ext.mono {a b : Act} {i j : Nat} (h : Ext a b j) (hij : i ≤ j) : Ext a b i := ⟨h.size, h.defers, fun n hn => h.same n (by omega)⟩
section
variable {ops : Array Oper} {Q : Exit → Act → World → Prop} {ks : List OpKey} {a : Act} {W W' : World}
set_option maxRecDepth 100000 in
theorem block_wp (b : Int × List (Int × Int)) (i : Nat) (hb : b.2.length = 1 ∨ b.2.length = 2) (hs : i + b.2.length + 1 < a.tmps.size)
    (k : ∀ a', Ext a a' i → a'.eval (.tmp (i + b.2.length + 1)) = .agg #[.int .i64 b.1, .slice (some ⟨W.heap.size, 0, none⟩) b.2.length b.2.length] → WK ops Q ks a' (W.alloc (.cells (ecbCells b.2).toArray 221))) :
    WK ops Q (blkKeys b i ++ ks) a W := by
  obtain ⟨ec, L⟩ := b
  match L, hb, hs, k with
  | [(c, d)], _, hs, k =>
    have hs : i + 2 < a.tmps.size := hs
    refine WK_build 221 #[(0, ci c), (1, ci d)] i #[(0, .int .i64 c), (1, .int .i64 d)] (by kernel_rfl) _ (run_ecb c d W) ?_
    refine WK_slice 222 1 #[(0, .tmp i)] (i + 1) #[(0, .agg #[.int .i64 c, .int .i64 d])] ?_ _ (run_ecbs1 c d W) ?_
    · rw [show (#[(0, Operand.tmp i)] : Array (Nat × Operand)).map (fun p => (p.1, (a.put (some i) (.agg #[.int .i64 c, .int .i64 d])).eval p.2)) = #[(0, (a.put (some i) (.agg #[.int .i64 c, .int .i64 d])).eval (.tmp i))] from by kernel_rfl, Act.eval_put_same _ _ _ (by omega)]
    refine WK_build 224 #[(0, ci ec), (1, .tmp (i + 1))] (i + 1 + 1) #[(0, .int .i64 ec), (1, .slice (some ⟨W.heap.size, 0, none⟩) 1 1)] ?_ _ (run_blk ec W.heap.size 1 _) ?_
    · rw [show ∀ A : Act, (#[(0, ci ec), (1, Operand.tmp (i + 1))] : Array (Nat × Operand)).map (fun p => (p.1, A.eval p.2)) = #[(0, .int .i64 ec), (1, A.eval (.tmp (i + 1)))] from fun _ => by kernel_rfl, Act.eval_put_same _ _ _ (by rw [Act.size_put]; omega)]
    refine k _ ((((Ext.refl a i).put i _ (by omega)).put (i + 1) _ (by omega)).put (i + 1 + 1) _ (by omega)) ?_
    exact Act.eval_put_same _ _ _ (by rw [Act.size_put, Act.size_put]; omega)
  | [(c, d), (e, f)], _, hs, k =>
    have hs : i + 3 < a.tmps.size := hs
    refine WK_build 221 #[(0, ci c), (1, ci d)] i #[(0, .int .i64 c), (1, .int .i64 d)] (by kernel_rfl) _ (run_ecb c d W) ?_
    refine WK_build 221 #[(0, ci e), (1, ci f)] (i + 1) #[(0, .int .i64 e), (1, .int .i64 f)] (by kernel_rfl) _ (run_ecb e f W) ?_
    refine WK_slice 222 2 #[(0, .tmp i), (1, .tmp (i + 1))] (i + 2) #[(0, .agg #[.int .i64 c, .int .i64 d]), (1, .agg #[.int .i64 e, .int .i64 f])] ?_ _ (run_ecbs2 c d e f W) ?_
    · rw [show ∀ A : Act, (#[(0, Operand.tmp i), (1, Operand.tmp (i + 1))] : Array (Nat × Operand)).map (fun p => (p.1, A.eval p.2)) = #[(0, A.eval (.tmp i)), (1, A.eval (.tmp (i + 1)))] from fun _ => by kernel_rfl, Act.eval_put_same _ _ _ (by rw [Act.size_put]; omega), Act.eval_put_ne _ _ _ _ (by omega), Act.eval_put_same _ _ _ (by omega)]
    refine WK_build 224 #[(0, ci ec), (1, .tmp (i + 2))] (i + 2 + 1) #[(0, .int .i64 ec), (1, .slice (some ⟨W.heap.size, 0, none⟩) 2 2)] ?_ _ (run_blk ec W.heap.size 2 _) ?_
    · rw [show ∀ A : Act, (#[(0, ci ec), (1, Operand.tmp (i + 2))] : Array (Nat × Operand)).map (fun p => (p.1, A.eval p.2)) = #[(0, .int .i64 ec), (1, A.eval (.tmp (i + 2)))] from fun _ => by kernel_rfl, Act.eval_put_same _ _ _ (by rw [Act.size_put, Act.size_put]; omega)]
    refine k _ (((((Ext.refl a i).put i _ (by omega)).put (i + 1) _ (by omega)).put (i + 2) _ (by omega)).put (i + 2 + 1) _ (by omega)) ?_
    exact Act.eval_put_same _ _ _ (by rw [Act.size_put, Act.size_put, Act.size_put]; omega)
end

/-! ### versionOf: the arms' bodies, and the chain -/
def esCells (v : VerRow) (g : Nat → Nat) : Array Value := match v.2 with
  | [b0, b1, b2, b3] => #[.int .i64 b0.1, .slice (some ⟨g 0, 0, none⟩) b0.2.length b0.2.length, .int .i64 b1.1, .slice (some ⟨g 1, 0, none⟩) b1.2.length b1.2.length,
      .int .i64 b2.1, .slice (some ⟨g 2, 0, none⟩) b2.2.length b2.2.length, .int .i64 b3.1, .slice (some ⟨g 3, 0, none⟩) b3.2.length b3.2.length]
  | _ => #[]
def rowTot (v : VerRow) : Int := ecbTot (v.2.getD 0 (0, [])).1 (v.2.getD 0 (0, [])).2 (v.2.getD 0 (0, [])).2.length
/-- Block p is version n with the row v. -/
def VerAt (w : World) (p : Nat) (n : Int) (v : VerRow) : Prop := ∃ gc ge : Nat, ∃ g : Nat → Nat,
  Blk w p 154 #[.int .i64 n, .slice (some ⟨gc, 0, none⟩) v.1.length v.1.length, .slice (some ⟨ge, 0, none⟩) 4 4, .int .i64 (rowTot v)] ∧ Blk w gc 3 (nums .i64 v.1).toArray ∧ Blk w ge 224 (esCells v g) ∧
  ∀ l, l < 4 → Blk w (g l) 221 (ecbCells (v.2.getD l (0, [])).2).toArray
theorem VerAt.below {w w' : World} {p B : Nat} {n : Int} {v : VerRow} (h : VerAt w p n v) (hb : Below B w w') (hB : w.heap.size ≤ B) : VerAt w' p n v := by
  obtain ⟨gc, ge, g, h1, h2, h3, h4⟩ := h
  exact ⟨gc, ge, g, h1.below hb (by have := h1.lt; omega), h2.below hb (by have := h2.lt; omega), h3.below hb (by have := h3.lt; omega), fun l hl => (h4 l hl).below hb (by have := (h4 l hl).lt; omega)⟩
structure RowOK (v : VerRow) : Prop where
  four : v.2.length = 4
  cents : v.1.length ≤ 7
  grp : ∀ b ∈ v.2, b.2.length = 1 ∨ b.2.length = 2
  ec : ∀ b ∈ v.2, 0 ≤ b.1 ∧ b.1 ≤ 100
  lim : ∀ b ∈ v.2, ∀ q ∈ b.2, 0 ≤ q.1 ∧ q.1 ≤ 100 ∧ 0 ≤ q.2 ∧ q.2 ≤ 1000
theorem rows_ok : ∀ v ∈ verTab, RowOK v := by
  have h : ∀ v ∈ verTab, v.2.length = 4 ∧ v.1.length ≤ 7 ∧ (∀ b ∈ v.2, b.2.length = 1 ∨ b.2.length = 2) ∧ (∀ b ∈ v.2, 0 ≤ b.1 ∧ b.1 ≤ 100) ∧ (∀ b ∈ v.2, ∀ q ∈ b.2, 0 ≤ q.1 ∧ q.1 ≤ 100 ∧ 0 ≤ q.2 ∧ q.2 ≤ 1000) := by decide +kernel
  intro v hv
  obtain ⟨h1, h2, h3, h4, h5⟩ := h v hv
  exact ⟨h1, h2, h3, h4, h5⟩
def enumV (L : List Int) : Array (Nat × Value) := enum (L.map fun n => Value.int .i64 n)
theorem run_cents : ∀ (cs : List Int) (hl : cs.length ≤ 7) (W : World), (Instr.buildSlice 93 cs.length (enumV cs)).run Tryz.prog W = .ok (.slice (some ⟨W.heap.size, 0, none⟩) cs.length cs.length) (W.alloc (.cells (nums .i64 cs).toArray 3))
  | [], _, W => by kernel_rfl
  | [a], _, W => by kernel_rfl
  | [a, b], _, W => by kernel_rfl
  | [a, b, c], _, W => by kernel_rfl
  | [a, b, c, d], _, W => by kernel_rfl
  | [a, b, c, d, e], _, W => by kernel_rfl
  | [a, b, c, d, e, f], _, W => by kernel_rfl
  | [a, b, c, d, e, f, g], _, W => by kernel_rfl
  | _ :: _ :: _ :: _ :: _ :: _ :: _ :: _ :: _, h, _ => by simp at h
theorem eval_cents : ∀ (cs : List Int) (hl : cs.length ≤ 7) (A : Act), ((enum (cs.map ci)).map fun p => (p.1, A.eval p.2)) = enumV cs
  | [], _, A => by kernel_rfl
  | [a], _, A => by kernel_rfl
  | [a, b], _, A => by kernel_rfl
  | [a, b, c], _, A => by kernel_rfl
  | [a, b, c, d], _, A => by kernel_rfl
  | [a, b, c, d, e], _, A => by kernel_rfl
  | [a, b, c, d, e, f], _, A => by kernel_rfl
  | [a, b, c, d, e, f, g], _, A => by kernel_rfl
  | _ :: _ :: _ :: _ :: _ :: _ :: _ :: _ :: _, h, _ => by simp at h
section
variable {ops : Array Oper} {Q : Exit → Act → World → Prop} {a : Act} {W : World}
theorem run_call (A : Act) (n : Int) (i e : Nat) (x y : Value) (hx : A.eval (.tmp i) = x) (hy : A.eval (.tmp e) = y) (W : World) (o : Oper) (ho : o.op = .call { callee := .value (.func 143), args := #[ci n, .tmp i, .tmp e], argTypes := #[3, 93, 152] }) :
    (execOp A.eval o).run Tryz.prog W = .ok (.enter 143 #[.int .i64 n, x, y]) W := by
  subst hx hy
  unfold execOp
  rw [ho]
  kernel_rfl
set_option maxRecDepth 100000 in
theorem body_wp (n : Nat) (v : VerRow) (i : Nat) (ok : RowOK v) (h2 : 2 < i) (hs : blksEnd v.2 (i + 1) + 1 < a.tmps.size)
    (k : ∀ a' W' p, a'.tmps.size = a.tmps.size → a'.defers = a.defers → a'.eval (.tmp 2) = .pointer (some ⟨p, 0, none⟩) → W.heap.size ≤ p → VerAt W' p (n : Int) v → Below W.heap.size W W' → Q .normal a' W') : WK ops Q (bodyKeys n v i) a W := by
  obtain ⟨cs, bs⟩ := v
  obtain ⟨b0, b1, b2, b3, rfl⟩ : ∃ b0 b1 b2 b3, bs = [b0, b1, b2, b3] := by
    match bs, ok.four with
    | [b0, b1, b2, b3], _ => exact ⟨b0, b1, b2, b3, rfl⟩
  have g0 := ok.grp b0 (by simp)
  have g1 := ok.grp b1 (by simp)
  have g2 := ok.grp b2 (by simp)
  have g3 := ok.grp b3 (by simp)
  have hcs : cs.length ≤ 7 := ok.cents
  have hec := ok.ec b0 (by simp)
  have hlim := ok.lim b0 (by simp)
  obtain ⟨i1, e1⟩ : ∃ i1, i1 = i + 1 + b0.2.length + 2 := ⟨_, rfl⟩
  obtain ⟨i2, e2⟩ : ∃ i2, i2 = i1 + b1.2.length + 2 := ⟨_, rfl⟩
  obtain ⟨i3, e3⟩ : ∃ i3, i3 = i2 + b2.2.length + 2 := ⟨_, rfl⟩
  obtain ⟨i4, e4⟩ : ∃ i4, i4 = i3 + b3.2.length + 2 := ⟨_, rfl⟩
  have hend : blksEnd [b0, b1, b2, b3] (i + 1) = i4 := by rw [blksEnd, blksEnd, blksEnd, blksEnd, blksEnd, e4, e3, e2, e1]
  have hs : i4 + 1 < a.tmps.size := by rw [← hend]; exact hs
  have hkeys : bodyKeys n (cs, [b0, b1, b2, b3]) i = (.buildSlice 93 cs.length (enum (cs.map ci)), some i, none) :: (blkKeys b0 (i + 1) ++ (blkKeys b1 i1 ++ (blkKeys b2 i2 ++ (blkKeys b3 i3 ++
      [(.buildSlice 152 4 #[(0, .tmp (i + 1 + b0.2.length + 1)), (1, .tmp (i1 + b1.2.length + 1)), (2, .tmp (i2 + b2.2.length + 1)), (3, .tmp (i3 + b3.2.length + 1))], some i4, none),
       (.call { callee := .value (.func 143), args := #[ci n, .tmp i, .tmp i4], argTypes := #[3, 93, 152] }, some (i4 + 1), none), (.assign (.tmp (i4 + 1)), some 2, none)])))) := by
    unfold bodyKeys
    simp only [hend, blksKeys, List.append_assoc, List.nil_append, ← e1, ← e2, ← e3, ← e4]
    rw [show enum (blksTmps [b0, b1, b2, b3] (i + 1)) = #[(0, Operand.tmp (i + 1 + b0.2.length + 1)), (1, .tmp (i + 1 + b0.2.length + 2 + b1.2.length + 1)), (2, .tmp (i + 1 + b0.2.length + 2 + b1.2.length + 2 + b2.2.length + 1)), (3, .tmp (i + 1 + b0.2.length + 2 + b1.2.length + 2 + b2.2.length + 2 + b3.2.length + 1))] from by kernel_rfl, ← e1, ← e2, ← e3]
  rw [hkeys]
  refine WK_slice 93 cs.length _ i (enumV cs) (eval_cents cs hcs _) _ (run_cents cs hcs W) ?_
  obtain ⟨a0, ha0⟩ : ∃ a0, a0 = a.put (some i) (.slice (some ⟨W.heap.size, 0, none⟩) cs.length cs.length) := ⟨_, rfl⟩
  have s0 : a0.tmps.size = a.tmps.size := by rw [ha0, Act.size_put]
  have d0 : a0.defers = a.defers := by rw [ha0, Act.defers_put']
  have v0 : a0.eval (.tmp i) = .slice (some ⟨W.heap.size, 0, none⟩) cs.length cs.length := by rw [ha0]; exact Act.eval_put_same _ _ _ (by omega)
  rw [← ha0]
  obtain ⟨W0, hW0⟩ : ∃ W0, W0 = W.alloc (.cells (nums .i64 cs).toArray 3) := ⟨_, rfl⟩
  rw [← hW0]
  refine block_wp b0 (i + 1) g0 (by omega) fun a1 x1 u1 => ?_
  obtain ⟨W1, hW1⟩ : ∃ W1, W1 = W0.alloc (.cells (ecbCells b0.2).toArray 221) := ⟨_, rfl⟩
  rw [← hW1]
  refine block_wp b1 i1 g1 (by rw [x1.size]; omega) fun a2 x2 u2 => ?_
  obtain ⟨W2, hW2⟩ : ∃ W2, W2 = W1.alloc (.cells (ecbCells b1.2).toArray 221) := ⟨_, rfl⟩
  rw [← hW2]
  refine block_wp b2 i2 g2 (by rw [x2.size, x1.size]; omega) fun a3 x3 u3 => ?_
  obtain ⟨W3, hW3⟩ : ∃ W3, W3 = W2.alloc (.cells (ecbCells b2.2).toArray 221) := ⟨_, rfl⟩
  rw [← hW3]
  refine block_wp b3 i3 g3 (by rw [x3.size, x2.size, x1.size]; omega) fun a4 x4 u4 => ?_
  obtain ⟨W4, hW4⟩ : ∃ W4, W4 = W3.alloc (.cells (ecbCells b3.2).toArray 221) := ⟨_, rfl⟩
  rw [← hW4]
  have t0 : a4.eval (.tmp (i + 1 + b0.2.length + 1)) = .agg #[.int .i64 b0.1, .slice (some ⟨W0.heap.size, 0, none⟩) b0.2.length b0.2.length] := by
    rw [x4.same _ (by omega), x3.same _ (by omega), x2.same _ (by omega), u1]
  have t1 : a4.eval (.tmp (i1 + b1.2.length + 1)) = .agg #[.int .i64 b1.1, .slice (some ⟨W1.heap.size, 0, none⟩) b1.2.length b1.2.length] := by
    rw [x4.same _ (by omega), x3.same _ (by omega), u2]
  have t2 : a4.eval (.tmp (i2 + b2.2.length + 1)) = .agg #[.int .i64 b2.1, .slice (some ⟨W2.heap.size, 0, none⟩) b2.2.length b2.2.length] := by
    rw [x4.same _ (by omega), u3]
  have ti : a4.eval (.tmp i) = .slice (some ⟨W.heap.size, 0, none⟩) cs.length cs.length := by
    rw [x4.same _ (by omega), x3.same _ (by omega), x2.same _ (by omega), x1.same _ (by omega), v0]
  have sz : a4.tmps.size = a.tmps.size := by rw [x4.size, x3.size, x2.size, x1.size, s0]
  have df : a4.defers = a.defers := by rw [x4.defers, x3.defers, x2.defers, x1.defers, d0]
  refine WK_slice 152 4 _ i4 #[(0, .agg #[.int .i64 b0.1, .slice (some ⟨W0.heap.size, 0, none⟩) b0.2.length b0.2.length]), (1, .agg #[.int .i64 b1.1, .slice (some ⟨W1.heap.size, 0, none⟩) b1.2.length b1.2.length]), (2, .agg #[.int .i64 b2.1, .slice (some ⟨W2.heap.size, 0, none⟩) b2.2.length b2.2.length]), (3, .agg #[.int .i64 b3.1, .slice (some ⟨W3.heap.size, 0, none⟩) b3.2.length b3.2.length])] ?_ _ (run_blks _ _ _ _ _ _ _ _ _ _ _ _ W4) ?_
  · rw [show ∀ (A : Act) (q0 q1 q2 q3 : Nat), (#[(0, Operand.tmp q0), (1, Operand.tmp q1), (2, Operand.tmp q2), (3, Operand.tmp q3)] : Array (Nat × Operand)).map (fun p => (p.1, A.eval p.2)) = #[(0, A.eval (.tmp q0)), (1, A.eval (.tmp q1)), (2, A.eval (.tmp q2)), (3, A.eval (.tmp q3))] from fun _ _ _ _ _ => by kernel_rfl, t0, t1, t2, u4]
  obtain ⟨W5, hW5⟩ : ∃ W5, W5 = W4.alloc (.cells #[.int .i64 b0.1, .slice (some ⟨W0.heap.size, 0, none⟩) b0.2.length b0.2.length, .int .i64 b1.1, .slice (some ⟨W1.heap.size, 0, none⟩) b1.2.length b1.2.length, .int .i64 b2.1, .slice (some ⟨W2.heap.size, 0, none⟩) b2.2.length b2.2.length, .int .i64 b3.1, .slice (some ⟨W3.heap.size, 0, none⟩) b3.2.length b3.2.length] 224) := ⟨_, rfl⟩
  rw [← hW5]
  have k0 : Blk W5 W.heap.size 3 (nums .i64 cs).toArray := by
    rw [hW5, hW4, hW3, hW2, hW1, hW0]
    exact (((((Blk.new W 3 _).alloc _).alloc _).alloc _).alloc _).alloc _
  have k1 : Blk W5 W0.heap.size 221 (ecbCells b0.2).toArray := by
    rw [hW5, hW4, hW3, hW2, hW1]
    exact ((((Blk.new W0 221 _).alloc _).alloc _).alloc _).alloc _
  have k2 : Blk W5 W1.heap.size 221 (ecbCells b1.2).toArray := by
    rw [hW5, hW4, hW3, hW2]
    exact (((Blk.new W1 221 _).alloc _).alloc _).alloc _
  have k3 : Blk W5 W2.heap.size 221 (ecbCells b2.2).toArray := by
    rw [hW5, hW4, hW3]
    exact ((Blk.new W2 221 _).alloc _).alloc _
  have k4 : Blk W5 W3.heap.size 221 (ecbCells b3.2).toArray := by
    rw [hW5, hW4]
    exact (Blk.new W3 221 _).alloc _
  have k5 : Blk W5 W4.heap.size 224 #[.int .i64 b0.1, .slice (some ⟨W0.heap.size, 0, none⟩) b0.2.length b0.2.length, .int .i64 b1.1, .slice (some ⟨W1.heap.size, 0, none⟩) b1.2.length b1.2.length, .int .i64 b2.1, .slice (some ⟨W2.heap.size, 0, none⟩) b2.2.length b2.2.length, .int .i64 b3.1, .slice (some ⟨W3.heap.size, 0, none⟩) b3.2.length b3.2.length] := by
    rw [hW5]
    exact Blk.new W4 224 _
  have hb5 : Below W.heap.size W W5 := by
    rw [hW5, hW4, hW3, hW2, hW1, hW0]
    repeat (first | exact Below.refl _ _ | apply below_alloc)
  have hc := newVer W5 (n : Int) b0.1 W.heap.size cs.length W4.heap.size W0.heap.size b0.2.length _ b0.2 rfl (by omega) k5 rfl rfl k1 hec hlim
  refine WK_call _ (i4 + 1) 143 #[.int .i64 (n : Int), .slice (some ⟨W.heap.size, 0, none⟩) cs.length cs.length, .slice (some ⟨W4.heap.size, 0, none⟩) 4 4] (fun o ho => run_call _ n i i4 _ _ ?_ ?_ W5 o ho) _ hc ?_
  · rw [Act.eval_put_ne _ _ _ _ (by omega), ti]
  · exact Act.eval_put_same _ _ _ (by omega)
  rintro e W' ⟨p, rfl, hp, hbw, hblk⟩
  refine ⟨_, rfl, ?_⟩
  refine WK_assign _ 2 (WK_nil ?_)
  refine k _ W' p (by rw [Act.size_put, Act.size_put, Act.size_put, sz]) (by rw [Act.defers_put', Act.defers_put', Act.defers_put', df]) ?_ (Nat.le_trans hb5.size hp) ?_ (hb5.trans (hbw.mono hb5.size))
  · rw [Act.eval_put_same _ _ _ (by rw [Act.size_put, Act.size_put]; omega)]
    exact Act.eval_put_same _ _ _ (by rw [Act.size_put]; omega)
  · refine ⟨W.heap.size, W4.heap.size, fun l => match l with | 0 => W0.heap.size | 1 => W1.heap.size | 2 => W2.heap.size | _ => W3.heap.size, hblk, k0.below hbw k0.lt, k5.below hbw k5.lt, ?_⟩
    intro l hl
    match l, hl with
    | 0, _ => exact k1.below hbw k1.lt
    | 1, _ => exact k2.below hbw k2.lt
    | 2, _ => exact k3.below hbw k3.lt
    | 3, _ => exact k4.below hbw k4.lt
end

/-! ### versionOf itself -/
theorem unchain_cons {f : Nat} {c : Code} {A : Arm} {As : List Arm} (h : unchain (f + 1) c = A :: As) :
    ∃ (i1 i2 : Nat) (ops body : Array Oper) (x : Operand) (rest : Code), c = .seq (.region i1 ops false) (.cond x (.seq (.region i2 body false) .ret) rest) ∧ ops.toList.map keyOf = A.1 ∧ x = A.2.1 ∧ body.toList.map keyOf = A.2.2 ∧ unchain f rest = As := by
  unfold unchain at h
  split at h
  · cases h
  · rename_i f' _ _ _ _ _ _ heq
    obtain rfl : f = f' := by omega
    injection h with h1 h2
    subst h1
    exact ⟨_, _, _, _, _, _, rfl, rfl, rfl, rfl, h2⟩
  · cases h
theorem blksEnd_ge : ∀ (L : List (Int × List (Int × Int))) (i : Nat), i ≤ blksEnd L i := by
  intro L
  induction L with
  | nil => intro i; exact Nat.le_refl _
  | cons b L ih => intro i; rw [blksEnd]; exact Nat.le_trans (by omega) (ih _)
def chainEnd : Nat → List VerRow → Nat
  | s, [] => s
  | s, v :: L => chainEnd (blksEnd v.2 (s + 3) + 2) L
theorem chainEnd_ge : ∀ (L : List VerRow) (s : Nat), s ≤ chainEnd s L := by
  intro L
  induction L with
  | nil => intro s; exact Nat.le_refl _
  | cons v L ih => intro s; rw [chainEnd]; exact Nat.le_trans (by have := blksEnd_ge v.2 (s + 3); omega) (ih _)
theorem chain_wp (Q : Exit → Act → World → Prop) (n : Nat) (W : World) (N : Nat) : ∀ (L : List VerRow) (m s f : Nat) (c : Code) (a : Act), unchain f c = armsFrom m s L → m ≤ n → n < m + L.length → (∀ v ∈ L, RowOK v) →
    a.eval (.tmp 3) = .int .i64 (n : Int) → 3 < s → chainEnd s L ≤ a.tmps.size → a.tmps.size = N → a.defers = [] →
    (∀ a' W' p, a'.tmps.size = N → a'.defers = [] → a'.eval (.tmp 2) = .pointer (some ⟨p, 0, none⟩) → W.heap.size ≤ p → VerAt W' p (n : Int) (L.getD (n - m) ([], [])) → Below W.heap.size W W' → Q .ret a' W') → c.wp Tryz.prog Q a W := by
  intro L
  induction L with
  | nil => intro m s f c a _ h1 h2; simp at h2; omega
  | cons v L ih =>
    intro m s f c a hu h1 h2 hok h3 hs hsz hN hdf k
    rw [armsFrom] at hu
    cases f with
    | zero => cases hu
    | succ f =>
      obtain ⟨i1, i2, ops, body, x, rest, rfl, ho, rfl, hb, hr⟩ := unchain_cons hu
      rw [chainEnd] at hsz
      have hge := chainEnd_ge L (blksEnd v.2 (s + 3) + 2)
      have hge2 := blksEnd_ge v.2 (s + 3)
      refine wp_seq (wp_region_list ?_)
      revert ho
      refine fun ho => (?_ : WK ops (Exit.then ((Code.cond (Operand.tmp s) (.seq (.region i2 body false) .ret) rest).wp Tryz.prog Q) Q) [(.binOp .eql 3 (.tmp 3) (ci m) 3, some (s + 1), none), (.assign (.tmp (s + 1)), some s, none)] a W) _ ho
      refine WK_eql _ (n : Int) (m : Int) (s + 1) h3 (WK_assign _ s (WK_nil ?_))
      have e1 : (a.put (some (s + 1)) (.bool ((n : Int) == (m : Int)))).eval (.tmp (s + 1)) = .bool ((n : Int) == (m : Int)) := Act.eval_put_same _ _ _ (by omega)
      rw [e1]
      obtain ⟨a2, ha2⟩ : ∃ a2, a2 = (a.put (some (s + 1)) (.bool ((n : Int) == (m : Int)))).put (some s) (.bool ((n : Int) == (m : Int))) := ⟨_, rfl⟩
      rw [← ha2]
      have z2 : a2.tmps.size = a.tmps.size := by rw [ha2, Act.size_put, Act.size_put]
      have f2 : a2.defers = [] := by rw [ha2, Act.defers_put', Act.defers_put', hdf]
      have b2 : a2.eval (.tmp s) = .bool ((n : Int) == (m : Int)) := by rw [ha2]; exact Act.eval_put_same _ _ _ (by rw [Act.size_put]; omega)
      have c2 : a2.eval (.tmp 3) = .int .i64 (n : Int) := by rw [ha2, Act.eval_put_ne _ _ _ _ (by omega), Act.eval_put_ne _ _ _ _ (by omega), h3]
      show (Code.cond (Operand.tmp s) (.seq (.region i2 body false) .ret) rest).wp Tryz.prog Q a2 W
      by_cases e : n = m
      · subst e
        refine wp_cond_true (by rw [b2]; simp) ?_
        refine wp_seq (wp_region_list ?_)
        refine (?_ : WK body (Exit.then (Code.ret.wp Tryz.prog Q) Q) (bodyKeys n v (s + 2)) a2 W) _ hb
        refine body_wp n v (s + 2) (hok v (List.mem_cons_self ..)) (by omega) (by rw [z2, show s + 2 + 1 = s + 3 from rfl]; omega) ?_
        intro a' W' p q1 q2 q3 q4 q5 q6
        refine wp_ret ?_
        refine k a' W' p (by omega) (by rw [q2, f2]) q3 q4 ?_ q6
        rw [Nat.sub_self]
        exact q5
      · refine wp_cond_false (by rw [b2]; simp; omega) ?_
        refine ih (m + 1) (blksEnd v.2 (s + 3) + 2) f rest a2 hr (by omega) (by rw [List.length_cons] at h2; omega) (fun v' hv' => hok v' (List.mem_cons_of_mem _ hv')) c2 (by omega) (by omega) (by omega) f2 ?_
        intro a' W' p q1 q2 q3 q4 q5 q6
        refine k a' W' p q1 q2 q3 q4 ?_ q6
        rw [show n - m = (n - (m + 1)) + 1 by omega, List.getD_cons_succ]
        exact q5
def verRow (n : Nat) : VerRow := verTab.getD (n - 1) ([], [])
theorem tmps104 : Tryz.f104.ntmps = chainEnd 4 verTab := by kernel_rfl
theorem results104 : Tryz.f104.results = #[.tmp 2] := by kernel_rfl
theorem versionOf_any (w : World) (n : Nat) (h : 1 ≤ n ∧ n ≤ 40) :
    Calls Tryz.prog 104 #[.int .i64 (n : Int)] w fun e w' => ∃ p, e = .returned (.pointer (some ⟨p, 0, none⟩)) ∧ w.heap.size ≤ p ∧ VerAt w' p (n : Int) (verRow n) ∧ Below w.heap.size w w' := by
  refine calls_of_wp Tryz.func104 body62 ?_
  have hnt := tmps104
  have hge := chainEnd_ge verTab 4
  obtain ⟨a, ha⟩ : ∃ a : Act, a = { tmps := #[Value.int .i64 (n : Int)] ++ Array.replicate (Tryz.f104.ntmps - (#[Value.int .i64 (n : Int)] : Array Value).size) undef, defers := [] } := ⟨_, rfl⟩
  have hsz : a.tmps.size = chainEnd 4 verTab := by
    rw [ha]
    show (#[Value.int .i64 (n : Int)] ++ Array.replicate (Tryz.f104.ntmps - 1) undef).size = _
    rw [Array.size_append, Array.size_replicate, hnt]
    show 1 + _ = _
    omega
  have hdf : a.defers = [] := by rw [ha]
  have h0 : a.eval (.tmp 0) = .int .i64 (n : Int) := by
    rw [ha]
    unfold Act.eval
    simp
  rw [← ha]
  obtain ⟨k1, k2⟩ := head62
  obtain ⟨k3, k4⟩ := head62b
  refine wp_seq ?_
  rw [k1]
  refine wp_region_list ?_
  refine (?_ : WK _ _ _ a w) _ k2
  refine WK_assign _ 2 (WK_nil ?_)
  show Code.wp Tryz.prog _ _ _ w
  refine wp_seq (wp_seq ?_)
  rw [k3]
  refine wp_region_list ?_
  refine (?_ : WK _ _ _ _ w) _ k4
  refine WK_move _ 3 (WK_nil ?_)
  show Code.wp Tryz.prog _ _ _ w
  refine wp_block ?_
  have z : ∀ (v1 v2 : Value), ((a.put (some 2) v1).put (some 3) v2).tmps.size = chainEnd 4 verTab := fun v1 v2 => by rw [Act.size_put, Act.size_put, hsz]
  refine chain_wp _ n w (chainEnd 4 verTab) verTab 1 4 40 _ _ chain62_eq h.1 (by show n < 1 + 40; omega) rows_ok ?_ (by omega) (by rw [z]; exact Nat.le_refl _) (z _ _) (by rw [Act.defers_put', Act.defers_put', hdf]) ?_
  · rw [Act.eval_put_same _ _ _ (by rw [Act.size_put, hsz]; omega), Act.eval_put_ne _ _ _ _ (by omega), h0]
  · intro a' W' p q1 q2 q3 q4 q5 q6
    have hgoal : bodyPost Tryz.prog Tryz.f104 (fun e w' => ∃ p, e = .returned (.pointer (some ⟨p, 0, none⟩)) ∧ w.heap.size ≤ p ∧ VerAt w' p (n : Int) (verRow n) ∧ Below w.heap.size w w') .ret a' W' := by
      refine bodyPost_ret (v := .pointer (some ⟨p, 0, none⟩)) ?_ q2 ⟨p, rfl, q4, q5, q6⟩
      rw [show results Tryz.f104 a'.tmps = results { Tryz.f104 with results := #[.tmp 2] } a'.tmps from by unfold results; rw [results104]]
      have : (a'.tmps[2]?.getD undef) = .pointer (some ⟨p, 0, none⟩) := by simpa [Act.eval] using q3
      simp [results, go_sem, this]
    exact hgoal

/-! ### The way of the data through a symbol, and how long it is -/
def inReg (x0 y0 w h x y : Nat) : Bool := decide (x0 ≤ x ∧ x < x0 + w ∧ y0 ≤ y ∧ y < y0 + h)
def ones (s k : Nat) : Nat := (2 ^ k - 1) <<< s
theorem ones_bit (s k i : Nat) : (ones s k).testBit i = decide (s ≤ i ∧ i < s + k) := by
  unfold ones
  rw [Nat.testBit_shiftLeft, Nat.testBit_two_pow_sub_one]
  by_cases h : s ≤ i
  · simp [h, show i - s < k ↔ i < s + k by omega]
  · simp [h]
def corner (last i k : Nat) : Bool := decide (i = 0 ∧ (k = 0 ∨ k = last) ∨ i = last ∧ k = 0)
/-- Whether x, y stands in an alignment pattern: the middles cs, their numbers from i on along x and from k on along y. -/
def alY (last i : Nat) (y : Nat) : Nat → List Nat → Bool
  | _, [] => false
  | k, b :: cs => (!corner last i k && decide (b - 2 ≤ y ∧ y < b - 2 + 5)) || alY last i y (k + 1) cs
def alX (last : Nat) (cs : List Nat) (x y : Nat) : Nat → List Nat → Bool
  | _, [] => false
  | i, a :: bs => (decide (a - 2 ≤ x ∧ x < a - 2 + 5) && alY last i y 0 cs) || alX last cs x y (i + 1) bs
def alB (cs : List Nat) (x y : Nat) : Bool := alX (cs.length - 1) cs x y 0 cs
/-- The function pattern of version v with the middles cs: column x, row y. -/
def fpB (v : Nat) (cs : List Nat) (x y : Nat) : Bool :=
  inReg 0 0 9 9 x y || inReg (4 * v + 9) 0 8 9 x y || inReg 0 (4 * v + 9) 9 8 x y || alB cs x y || inReg 6 9 1 (4 * v) x y || inReg 9 6 (4 * v) 1 x y ||
    (decide (6 < v) && (inReg (4 * v + 6) 0 3 6 x y || inReg 0 (4 * v + 6) 6 3 x y))
def alYm (last i : Nat) : Nat → List Nat → Nat
  | _, [] => 0
  | k, b :: cs => (if corner last i k then 0 else ones (b - 2) 5) ||| alYm last i (k + 1) cs
def alXm (last : Nat) (cs : List Nat) (x : Nat) : Nat → List Nat → Nat
  | _, [] => 0
  | i, a :: bs => (if a - 2 ≤ x ∧ x < a - 2 + 5 then alYm last i 0 cs else 0) ||| alXm last cs x (i + 1) bs
def regm (x0 y0 w h x : Nat) : Nat := if x0 ≤ x ∧ x < x0 + w then ones y0 h else 0
def colm (v : Nat) (cs : List Nat) (x : Nat) : Nat :=
  regm 0 0 9 9 x ||| regm (4 * v + 9) 0 8 9 x ||| regm 0 (4 * v + 9) 9 8 x ||| alXm (cs.length - 1) cs x 0 cs ||| regm 6 9 1 (4 * v) x ||| regm 9 6 (4 * v) 1 x |||
    (if 6 < v then regm (4 * v + 6) 0 3 6 x ||| regm 0 (4 * v + 6) 6 3 x else 0)
theorem regm_bit (x0 y0 w h x y : Nat) : (regm x0 y0 w h x).testBit y = inReg x0 y0 w h x y := by
  unfold regm inReg
  by_cases hx : x0 ≤ x ∧ x < x0 + w
  · rw [if_pos hx, ones_bit]; simp [hx]
  · rw [if_neg hx]; simp only [Nat.zero_testBit]; symm; rw [decide_eq_false_iff_not]; intro hc; exact hx ⟨hc.1, hc.2.1⟩
theorem alYm_bit (last i y : Nat) : ∀ (cs : List Nat) (k : Nat), (alYm last i k cs).testBit y = alY last i y k cs := by
  intro cs
  induction cs with
  | nil => intro k; simp [alYm, alY]
  | cons b cs ih =>
    intro k
    rw [alYm, alY, Nat.testBit_or, ih]
    cases corner last i k <;> simp [ones_bit]
theorem alXm_bit (last : Nat) (cs : List Nat) (x y : Nat) : ∀ (bs : List Nat) (i : Nat), (alXm last cs x i bs).testBit y = alX last cs x y i bs := by
  intro bs
  induction bs with
  | nil => intro i; simp [alXm, alX]
  | cons a bs ih =>
    intro i
    rw [alXm, alX, Nat.testBit_or, ih]
    by_cases h : a - 2 ≤ x ∧ x < a - 2 + 5
    · rw [if_pos h, alYm_bit]; simp [h]
    · rw [if_neg h, show decide (a - 2 ≤ x ∧ x < a - 2 + 5) = false from decide_eq_false h]; simp
theorem colm_bit (v : Nat) (cs : List Nat) (x y : Nat) : (colm v cs x).testBit y = fpB v cs x y := by
  unfold colm fpB alB
  simp only [Nat.testBit_or, regm_bit, alXm_bit]
  by_cases h : 6 < v
  · simp only [if_pos h, Nat.testBit_or, regm_bit, decide_eq_true h, Bool.true_and]
  · simp only [if_neg h, Nat.zero_testBit, decide_eq_false h, Bool.false_and]
/-- How many of the first k bits are set. -/
def pcN : Nat → Nat → Nat
  | 0, _ => 0
  | k + 1, x => x % 2 + pcN k (x / 2)
theorem countP_shift (p : Nat → Bool) (k : Nat) : (List.range (k + 1)).countP p = (if p 0 then 1 else 0) + (List.range k).countP (fun i => p (i + 1)) := by
  rw [List.range_succ_eq_map, List.countP_cons, List.countP_map, Nat.add_comm]
  rfl
theorem pcN_eq : ∀ (k x : Nat), pcN k x = (List.range k).countP fun i => x.testBit i := by
  intro k
  induction k with
  | zero => intro x; rfl
  | succ k ih =>
    intro x
    rw [pcN, ih, countP_shift]
    have h0 : x % 2 = if x.testBit 0 = true then 1 else 0 := by
      rw [Nat.testBit_zero]
      by_cases h : x % 2 = 1
      · simp [h]
      · have : x % 2 = 0 := by omega
        simp [this]
    rw [h0]
    congr 2
    funext i
    rw [Nat.testBit_succ]
/-- How many modules of column x carry data. -/
def freeN (n m : Nat) : Nat := n - pcN n m
theorem countP_not (p : Nat → Bool) (l : List Nat) : l.countP (fun i => !p i) = l.length - l.countP p := by
  have := List.length_eq_countP_add_countP p (l := l)
  have e : l.countP (fun i => !p i) = l.countP (fun a => decide ¬p a = true) := by congr 1; funext i; cases p i <;> rfl
  omega
theorem freeN_eq (v : Nat) (cs : List Nat) (n x : Nat) : freeN n (colm v cs x) = (List.range n).countP fun y => !fpB v cs x y := by
  unfold freeN
  rw [pcN_eq, countP_not, List.length_range]
  congr 2
  funext i
  exact colm_bit v cs x i
/-- A pair of columns, rt and the one left of it: the modules (row, column) that are free, upward or downward. -/
def pairAt (g : Nat → Nat → Bool) (rt r : Nat) : List (Nat × Nat) := [(r, rt), (r, rt - 1)].filter fun p => !g p.2 p.1
def rowAt (n : Nat) (up : Bool) (i : Nat) : Nat := if up then n - 1 - i else i
def colPair (n : Nat) (g : Nat → Nat → Bool) (rt : Nat) (up : Bool) : Nat → List (Nat × Nat)
  | 0 => []
  | i + 1 => colPair n g rt up i ++ pairAt g rt (rowAt n up i)
def fixR (right : Nat) : Nat := if right = 6 then 5 else right
def wayF (n : Nat) (g : Nat → Nat → Bool) : Nat → Nat → Bool → List (Nat × Nat)
  | 0, _, _ => []
  | k + 1, right, up => if right = 0 then [] else colPair n g (fixR right) up n ++ wayF n g k (fixR right - 2) (!up)
def way (n : Nat) (g : Nat → Nat → Bool) : List (Nat × Nat) := wayF n g n (n - 1) true
def lenF (n : Nat) (f : Nat → Nat) : Nat → Nat → Nat
  | 0, _ => 0
  | k + 1, right => if right = 0 then 0 else f (fixR right) + f (fixR right - 1) + lenF n f k (fixR right - 2)
theorem pairAt_len (g : Nat → Nat → Bool) (rt r : Nat) : (pairAt g rt r).length = (if g rt r then 0 else 1) + (if g (rt - 1) r then 0 else 1) := by
  unfold pairAt
  simp only [List.filter_cons, List.filter_nil]
  cases g rt r <;> cases g (rt - 1) r <;> rfl
theorem colPair_len (n : Nat) (g : Nat → Nat → Bool) (rt : Nat) (up : Bool) : ∀ i, i ≤ n → (colPair n g rt up i).length = (List.range i).countP (fun j => !g rt (rowAt n up j)) + (List.range i).countP (fun j => !g (rt - 1) (rowAt n up j)) := by
  intro i
  induction i with
  | zero => intro _; rfl
  | succ i ih =>
    intro h
    rw [colPair, List.length_append, ih (by omega), pairAt_len, List.range_succ, List.countP_append, List.countP_append]
    simp only [List.countP_cons, List.countP_nil]
    cases g rt (rowAt n up i) <;> cases g (rt - 1) (rowAt n up i) <;> simp <;> omega
theorem range_rev (n : Nat) : (List.range n).map (fun j => n - 1 - j) = (List.range n).reverse := by
  apply List.ext_getElem
  · simp
  · intro i h1 h2
    simp at h1 ⊢
theorem count_row (n : Nat) (up : Bool) (p : Nat → Bool) : (List.range n).countP (fun j => p (rowAt n up j)) = (List.range n).countP p := by
  cases up with
  | false => rfl
  | true =>
    have : (fun j => p (rowAt n true j)) = p ∘ (fun j => n - 1 - j) := rfl
    rw [this, ← List.countP_map, range_rev, List.countP_reverse]
theorem wayF_len (n : Nat) (g : Nat → Nat → Bool) : ∀ k right up, (wayF n g k right up).length = lenF n (fun x => (List.range n).countP fun y => !g x y) k right := by
  intro k
  induction k with
  | zero => intro _ _; rfl
  | succ k ih =>
    intro right up
    rw [wayF, lenF]
    split
    · rfl
    · rw [List.length_append, ih, colPair_len n g _ up n (Nat.le_refl _), count_row n up (fun y => !g (fixR right) y), count_row n up (fun y => !g (fixR right - 1) y)]
/-- The middles, by the formula. -/
def ctrs (v : Nat) : List Nat :=
  if v = 1 then [] else
    let many := v / 7 + 2
    let step := if v = 32 then 26 else (v * 4 + many * 2 + 1) / (many * 2 - 2) * 2
    6 :: (List.range (many - 1)).map fun i => 17 + 4 * v - 7 - step * (many - 2 - i)
def roomN (v : Nat) : Nat :=
  let n := 17 + 4 * v
  let m := (ctrs v).length
  n * n - 192 - 2 * (n - 16) - 31 - (if 7 ≤ v then 36 else 0) - (if 0 < m then 25 * (m * m - 3) - 10 * (m - 2) else 0)
set_option maxRecDepth 100000 in
set_option maxHeartbeats 4000000 in
theorem room_look : ∀ v : Fin 40, lenF (17 + 4 * (v.val + 1)) (fun x => freeN (17 + 4 * (v.val + 1)) (colm (v.val + 1) (ctrs (v.val + 1)) x)) (17 + 4 * (v.val + 1)) (17 + 4 * (v.val + 1) - 1) = roomN (v.val + 1) := by decide +kernel
theorem way_len (v : Nat) (hv : 1 ≤ v ∧ v ≤ 40) : (way (17 + 4 * v) (fpB v (ctrs v))).length = roomN v := by
  have h := room_look ⟨v - 1, by omega⟩
  rw [show (⟨v - 1, by omega⟩ : Fin 40).val + 1 = v by show v - 1 + 1 = v; omega] at h
  unfold way
  rw [wayF_len, ← h]
  congr 1
  funext x
  exact (freeN_eq v (ctrs v) _ x).symm
theorem pairAt_mem (g : Nat → Nat → Bool) (rt r : Nat) (p : Nat × Nat) (h : p ∈ pairAt g rt r) : p.1 = r ∧ (p.2 = rt ∨ p.2 = rt - 1) ∧ g p.2 p.1 = false := by
  unfold pairAt at h
  rw [List.mem_filter] at h
  obtain ⟨h1, h2⟩ := h
  simp only [List.mem_cons, List.not_mem_nil, or_false] at h1
  refine ⟨?_, ?_, by simpa using h2⟩
  · rcases h1 with rfl | rfl <;> rfl
  · rcases h1 with rfl | rfl
    · exact .inl rfl
    · exact .inr rfl
theorem pairAt_nodup (g : Nat → Nat → Bool) (rt r : Nat) (h : 1 ≤ rt) : (pairAt g rt r).Nodup := by
  unfold pairAt
  refine List.Pairwise.filter _ (List.Pairwise.cons ?_ (List.Pairwise.cons (fun _ h => by cases h) List.Pairwise.nil))
  intro a ha
  rw [List.mem_singleton] at ha
  subst ha
  intro e
  have := congrArg Prod.snd e
  simp only at this
  omega
theorem colPair_mem (n : Nat) (g : Nat → Nat → Bool) (rt : Nat) (up : Bool) (p : Nat × Nat) : ∀ i, p ∈ colPair n g rt up i → ∃ j, j < i ∧ p.1 = rowAt n up j ∧ (p.2 = rt ∨ p.2 = rt - 1) ∧ g p.2 p.1 = false := by
  intro i
  induction i with
  | zero => intro h; cases h
  | succ i ih =>
    intro h
    rw [colPair, List.mem_append] at h
    rcases h with h | h
    · obtain ⟨j, hj, k⟩ := ih h
      exact ⟨j, by omega, k⟩
    · obtain ⟨h1, h2, h3⟩ := pairAt_mem g rt _ p h
      exact ⟨i, by omega, h1, h2, h3⟩
theorem rowAt_inj (n : Nat) (up : Bool) (i j : Nat) (hi : i < n) (hj : j < n) (h : rowAt n up i = rowAt n up j) : i = j := by
  unfold rowAt at h
  cases up <;> simp at h <;> omega
theorem rowAt_lt (n : Nat) (up : Bool) (i : Nat) (hi : i < n) : rowAt n up i < n := by
  unfold rowAt
  cases up <;> simp <;> omega
theorem colPair_nodup (n : Nat) (g : Nat → Nat → Bool) (rt : Nat) (up : Bool) (hr : 1 ≤ rt) : ∀ i, i ≤ n → (colPair n g rt up i).Nodup := by
  intro i
  induction i with
  | zero => intro _; exact List.nodup_nil
  | succ i ih =>
    intro h
    rw [colPair, List.nodup_append]
    refine ⟨ih (by omega), pairAt_nodup g rt _ hr, ?_⟩
    intro a ha b hb hab
    subst hab
    obtain ⟨j, hj, h1, _⟩ := colPair_mem n g rt up a i ha
    have h2 := (pairAt_mem g rt _ a hb).1
    have := rowAt_inj n up j i (by omega) (by omega) (h1.symm.trans h2)
    omega
theorem wayF_mem (n : Nat) (g : Nat → Nat → Bool) (p : Nat × Nat) : ∀ k right up, p ∈ wayF n g k right up → 1 ≤ right ∧ p.2 ≤ fixR right ∧ p.1 < n ∧ g p.2 p.1 = false := by
  intro k
  induction k with
  | zero => intro _ _ h; cases h
  | succ k ih =>
    intro right up h
    rw [wayF] at h
    split at h
    · cases h
    · rw [List.mem_append] at h
      rcases h with h | h
      · obtain ⟨j, hj, h1, h2, h3⟩ := colPair_mem n g _ up p n h
        exact ⟨by omega, by omega, h1 ▸ rowAt_lt n up j hj, h3⟩
      · obtain ⟨h1, h2, h3⟩ := ih _ _ h
        refine ⟨by omega, ?_, h3⟩
        have : fixR (fixR right - 2) ≤ fixR right - 2 := by
          unfold fixR; split <;> split <;> omega
        omega
theorem wayF_nodup (n : Nat) (g : Nat → Nat → Bool) : ∀ k right up, (wayF n g k right up).Nodup := by
  intro k
  induction k with
  | zero => intro _ _; exact List.nodup_nil
  | succ k ih =>
    intro right up
    rw [wayF]
    split
    · exact List.nodup_nil
    · rw [List.nodup_append]
      have h1 : 1 ≤ fixR right := by unfold fixR; split <;> omega
      refine ⟨colPair_nodup n g _ up h1 n (Nat.le_refl _), ih _ _, ?_⟩
      intro a ha b hb hab
      subst hab
      obtain ⟨j, hj, _, h2, _⟩ := colPair_mem n g _ up a n ha
      obtain ⟨h3, h4, _⟩ := wayF_mem n g a _ _ _ hb
      have : fixR (fixR right - 2) ≤ fixR right - 2 := by
        unfold fixR; split <;> split <;> omega
      omega
/-- Bits put one by one along a way. -/
def putAll (bit : Nat → Nat × Nat → Bool) : List (Nat × Nat) → Nat → (Nat → Nat → Bool) → Nat → Nat → Bool
  | [], _, f => f
  | p :: l, i, f => putAll bit l (i + 1) fun r c => if r = p.1 ∧ c = p.2 then bit i p else f r c
theorem putAll_other (bit : Nat → Nat × Nat → Bool) (r c : Nat) : ∀ (l : List (Nat × Nat)) (i : Nat) (f : Nat → Nat → Bool), (r, c) ∉ l → putAll bit l i f r c = f r c := by
  intro l
  induction l with
  | nil => intro i f _; rfl
  | cons p l ih =>
    intro i f h
    rw [putAll, ih _ _ (fun h' => h (List.mem_cons_of_mem _ h'))]
    rw [if_neg]
    rintro ⟨rfl, rfl⟩
    exact h (List.mem_cons_self ..)
theorem putAll_at (bit : Nat → Nat × Nat → Bool) : ∀ (l : List (Nat × Nat)) (i : Nat) (f : Nat → Nat → Bool), l.Nodup → ∀ (j : Nat) (p : Nat × Nat), l[j]? = some p → putAll bit l i f p.1 p.2 = bit (i + j) p := by
  intro l
  induction l with
  | nil => intro i f _ j p h; simp at h
  | cons q l ih =>
    intro i f hn j p h
    rw [List.nodup_cons] at hn
    rw [putAll]
    cases j with
    | zero =>
      simp at h
      subst h
      rw [putAll_other bit q.1 q.2 l _ _ hn.1, if_pos ⟨rfl, rfl⟩]
      rfl
    | succ j =>
      rw [ih (i + 1) _ hn.2 j p (by simpa using h)]
      congr 1
      omega

/-! ### The nearest of a table's words -/
def hd (a b : Nat) : Nat := pcN 64 (a ^^^ b)
theorem pcN_zero (k : Nat) : pcN k 0 = 0 := by
  induction k with
  | zero => rfl
  | succ k ih => rw [pcN, Nat.zero_div, ih]
theorem pcN_xor_le : ∀ (k x y : Nat), pcN k (x ^^^ y) ≤ pcN k x + pcN k y := by
  intro k
  induction k with
  | zero => intro x y; exact Nat.zero_le _
  | succ k ih =>
    intro x y
    rw [pcN, pcN, pcN, Nat.xor_div_two]
    have := ih (x / 2) (y / 2)
    have h : (x ^^^ y) % 2 ≤ x % 2 + y % 2 := by
      have e := Nat.xor_mod_two_pow (a := x) (b := y) (n := 1)
      simp only [Nat.pow_one] at e
      rw [e]
      rcases Nat.mod_two_eq_zero_or_one x with h1 | h1 <;> rcases Nat.mod_two_eq_zero_or_one y with h2 | h2 <;> rw [h1, h2] <;> decide
    omega
theorem hd_comm (a b : Nat) : hd a b = hd b a := by unfold hd; rw [Nat.xor_comm]
theorem hd_self (a : Nat) : hd a a = 0 := by unfold hd; rw [Nat.xor_self, pcN_zero]
theorem hd_tri (a b c : Nat) : hd a c ≤ hd a b + hd b c := by
  unfold hd
  have : a ^^^ c = (a ^^^ b) ^^^ (b ^^^ c) := by
    rw [Nat.xor_assoc, ← Nat.xor_assoc b b c, Nat.xor_self, Nat.zero_xor]
  rw [this]
  exact pcN_xor_le _ _ _
/-- One row's turn: the least difference so far, and what that row says. -/
def nearStep (a t d : Nat) (s : Nat × Nat) : Nat × Nat := if hd a t < s.1 then (hd a t, d) else s
def fmtStep (a b t d : Nat) (s : Nat × Nat) : Nat × Nat := if a = b then nearStep a t d s else nearStep b t d (nearStep a t d s)
def fmtGo (a b : Nat) : List (Nat × Nat) → Nat × Nat → Option Nat
  | [], s => if s.1 ≤ 3 then some s.2 else none
  | (t, d) :: rows, s => if t = a ∨ t = b then some d else fmtGo a b rows (fmtStep a b t d s)
def fmtIs (a b : Nat) (x : Nat × Nat) (rows : List (Nat × Nat)) : Prop := hd a x.1 ≤ 3 ∧ hd b x.1 ≤ 3 ∧ ∀ y ∈ rows, y = x ∨ 4 ≤ hd a y.1 ∧ 4 ≤ hd b y.1
theorem nearStep_far (a t d : Nat) (s : Nat × Nat) (h : 4 ≤ hd a t) (hs : 4 ≤ s.1) : 4 ≤ (nearStep a t d s).1 := by
  unfold nearStep
  split
  · exact h
  · exact hs
theorem nearStep_kept (a t d : Nat) (s : Nat × Nat) (h : 4 ≤ hd a t) (hs : s.1 ≤ 3) : nearStep a t d s = s := by
  unfold nearStep; rw [if_neg (by omega)]
theorem nearStep_hit (a t d : Nat) (s : Nat × Nat) (h : hd a t ≤ 3) (hs : 4 ≤ s.1 ∨ (s.1 ≤ 3 ∧ s.2 = d)) : (nearStep a t d s).1 ≤ 3 ∧ (nearStep a t d s).2 = d := by
  unfold nearStep
  split
  · exact ⟨h, rfl⟩
  · rcases hs with hs | hs
    · omega
    · exact hs
theorem fmtGo_found (a b : Nat) (x : Nat × Nat) : ∀ (rows : List (Nat × Nat)) (s : Nat × Nat), fmtIs a b x rows → (s.1 ≤ 3 ∧ s.2 = x.2) ∨ (4 ≤ s.1 ∧ x ∈ rows) → fmtGo a b rows s = some x.2 := by
  intro rows
  induction rows with
  | nil =>
    intro s _ h
    rcases h with ⟨h1, h2⟩ | ⟨_, h⟩
    · rw [fmtGo, if_pos h1, h2]
    · cases h
  | cons y rows ih =>
    intro s hi h
    obtain ⟨t, d⟩ := y
    obtain ⟨h1, h2, h3⟩ := hi
    have hi' : fmtIs a b x rows := ⟨h1, h2, fun z hz => h3 z (List.mem_cons_of_mem _ hz)⟩
    rw [fmtGo]
    rcases h3 (t, d) (List.mem_cons_self ..) with e | ⟨f1, f2⟩
    · subst e
      by_cases he : t = a ∨ t = b
      · rw [if_pos he]
      · rw [if_neg he]
        refine ih _ hi' (.inl ?_)
        have hs : 4 ≤ s.1 ∨ (s.1 ≤ 3 ∧ s.2 = d) := by
          rcases h with h | h
          · exact .inr h
          · exact .inl h.1
        unfold fmtStep
        split
        · exact nearStep_hit a t d s h1 hs
        · exact nearStep_hit b t d _ h2 (.inr (nearStep_hit a t d s h1 hs))
    · simp only at f1 f2
      rw [if_neg]
      · refine ih _ hi' ?_
        rcases h with h | ⟨h, hm⟩
        · refine .inl ?_
          have : fmtStep a b t d s = s := by
            unfold fmtStep
            split
            · exact nearStep_kept a t d s f1 h.1
            · rw [nearStep_kept a t d s f1 h.1]
              exact nearStep_kept b t d s f2 h.1
          rw [this]
          exact h
        · refine .inr ⟨?_, ?_⟩
          · unfold fmtStep
            split
            · exact nearStep_far a t d s f1 h
            · exact nearStep_far b t d _ f2 (nearStep_far a t d s f1 h)
          · rcases List.mem_cons.1 hm with e | e
            · subst e
              have h1 : hd a t ≤ 3 := h1
              omega
            · exact e
      · rintro (rfl | rfl)
        · rw [hd_self] at f1; omega
        · rw [hd_self] at f2; omega
/-- The table of the 32 formats. -/
def fmtTab : List (Nat × Nat) := [(0x5412, 0), (0x5125, 1), (0x5E7C, 2), (0x5B4B, 3), (0x45F9, 4), (0x40CE, 5), (0x4F97, 6), (0x4AA0, 7), (0x77C4, 8), (0x72F3, 9), (0x7DAA, 10), (0x789D, 11), (0x662F, 12), (0x6318, 13), (0x6C41, 14), (0x6976, 15),
  (0x1689, 16), (0x13BE, 17), (0x1CE7, 18), (0x19D0, 19), (0x0762, 20), (0x0255, 21), (0x0D0C, 22), (0x083B, 23), (0x355F, 24), (0x3068, 25), (0x3F31, 26), (0x3A06, 27), (0x24B4, 28), (0x2183, 29), (0x2EDA, 30), (0x2BED, 31)]
theorem fmt_far : ∀ i : Fin 32, ∀ k : Fin 32, i ≠ k → 7 ≤ hd (fmtTab.getD i.val (0, 0)).1 (fmtTab.getD k.val (0, 0)).1 := by decide +kernel
theorem mem_tab {α : Type} (l : List α) (d x : α) (h : x ∈ l) : ∃ i, i < l.length ∧ l.getD i d = x := by
  obtain ⟨i, hi, e⟩ := List.getElem_of_mem h
  exact ⟨i, hi, by rw [List.getD_eq_getElem?_getD, List.getElem?_eq_getElem hi, e]; rfl⟩
/-- A format of which at most three bits of each copy are wrong is found. -/
theorem fmt_found (k a b : Nat) (hk : k < 32) (ha : hd a (fmtTab.getD k (0, 0)).1 ≤ 3) (hb : hd b (fmtTab.getD k (0, 0)).1 ≤ 3) : fmtGo a b fmtTab (2147483647, 0) = some (fmtTab.getD k (0, 0)).2 := by
  refine fmtGo_found a b _ fmtTab _ ⟨ha, hb, ?_⟩ (.inr ⟨by decide, ?_⟩)
  · intro y hy
    obtain ⟨i, hi, e⟩ := mem_tab fmtTab (0, 0) y hy
    have hi : i < 32 := hi
    by_cases hik : i = k
    · subst hik
      exact .inl e.symm
    · refine .inr ?_
      have hf := fmt_far ⟨i, hi⟩ ⟨k, hk⟩ (by simpa using hik)
      simp only at hf
      rw [e] at hf
      have t1 := hd_tri y.1 a (fmtTab.getD k (0, 0)).1
      have t2 := hd_tri y.1 b (fmtTab.getD k (0, 0)).1
      rw [hd_comm y.1 a] at t1
      rw [hd_comm y.1 b] at t2
      omega
  · have : k < fmtTab.length := hk
    rw [List.getD_eq_getElem?_getD, List.getElem?_eq_getElem this]
    exact List.getElem_mem this
theorem fmt_snd : ∀ k : Fin 32, (fmtTab.getD k.val (0, 0)).2 = k.val := by decide
/-- The same for versions: one word. -/
def verGo (a : Nat) : List Nat → Nat → Nat × Nat → Option Nat
  | [], _, s => if s.1 ≤ 3 then some s.2 else none
  | t :: rows, i, s => if t = a then some i else verGo a rows (i + 1) (nearStep a t i s)
theorem verGo_found (a x n : Nat) : ∀ (rows : List Nat) (i : Nat) (s : Nat × Nat), hd a x ≤ 3 → (∀ k t, rows[k]? = some t → (i + k = n ∧ t = x) ∨ 4 ≤ hd a t) → (s.1 ≤ 3 ∧ s.2 = n) ∨ (4 ≤ s.1 ∧ ∃ k, rows[k]? = some x ∧ i + k = n) → verGo a rows i s = some n := by
  intro rows
  induction rows with
  | nil =>
    intro i s _ _ h
    rcases h with ⟨h1, h2⟩ | ⟨_, k, h, _⟩
    · rw [verGo, if_pos h1, h2]
    · simp at h
  | cons t rows ih =>
    intro i s h1 h3 h
    have h3' : ∀ k t', rows[k]? = some t' → (i + 1 + k = n ∧ t' = x) ∨ 4 ≤ hd a t' := by
      intro k t' hk
      rcases h3 (k + 1) t' (by simpa using hk) with ⟨e1, e2⟩ | e
      · exact .inl ⟨by omega, e2⟩
      · exact .inr e
    rw [verGo]
    rcases h3 0 t rfl with ⟨e1, e2⟩ | f1
    · subst e2
      have e1 : i = n := e1
      subst e1
      by_cases he : t = a
      · rw [if_pos he]
      · rw [if_neg he]
        refine ih _ _ h1 h3' (.inl (nearStep_hit a t i s h1 ?_))
        rcases h with h | h
        · exact .inr h
        · exact .inl h.1
    · rw [if_neg]
      · refine ih _ _ h1 h3' ?_
        rcases h with h | ⟨h, k, hm, hk⟩
        · exact .inl (by rw [nearStep_kept a t i s f1 h.1]; exact h)
        · refine .inr ⟨nearStep_far a t i s f1 h, ?_⟩
          cases k with
          | zero =>
            simp at hm
            subst hm
            omega
          | succ k => exact ⟨k, by simpa using hm, by omega⟩
      · rintro rfl
        rw [hd_self] at f1; omega
def verTabN : List Nat := [0x07C94, 0x085BC, 0x09A99, 0x0A4D3, 0x0BBF6, 0x0C762, 0x0D847, 0x0E60D, 0x0F928, 0x10B78, 0x1145D, 0x12A17, 0x13532, 0x149A6, 0x15683, 0x168C9, 0x177EC, 0x18EC4, 0x191E1, 0x1AFAB, 0x1B08E, 0x1CC1A, 0x1D33F, 0x1ED75, 0x1F250, 0x209D5, 0x216F0, 0x228BA, 0x2379F, 0x24B0B, 0x2542E, 0x26A64, 0x27541, 0x28C69]
theorem ver_far : ∀ i : Fin 34, ∀ k : Fin 34, i ≠ k → 7 ≤ hd (verTabN.getD i.val 0) (verTabN.getD k.val 0) := by decide +kernel
theorem ver_found (k a : Nat) (hk : k < 34) (ha : hd a (verTabN.getD k 0) ≤ 3) : verGo a verTabN 0 (2147483647, 0) = some k := by
  have hlen : verTabN.length = 34 := rfl
  refine verGo_found a (verTabN.getD k 0) k verTabN 0 _ ha ?_ (.inr ⟨by decide, k, ?_, by omega⟩)
  · intro i t hi
    have hil : i < verTabN.length := (List.getElem?_eq_some_iff.1 hi).1
    have e : verTabN.getD i 0 = t := by rw [List.getD_eq_getElem?_getD, hi]; rfl
    by_cases hik : i = k
    · subst hik
      exact .inl ⟨by omega, e.symm⟩
    · refine .inr ?_
      have hf := ver_far ⟨i, by omega⟩ ⟨k, hk⟩ (by simpa using hik)
      simp only at hf
      rw [e] at hf
      have t1 := hd_tri t a (verTabN.getD k 0)
      rw [hd_comm t a] at t1
      omega
  · rw [List.getD_eq_getElem?_getD, List.getElem?_eq_getElem (by omega)]; rfl

/-! ### How many bits are set, as math/bits counts -/
def rep (b : Nat) : Nat → Nat
  | 0 => 0
  | k + 1 => 256 * rep b k + b
theorem and_split (q d M n : Nat) (hd : d < 256) (hn : n < 256) : (256 * q + d) &&& (256 * M + n) = 256 * (q &&& M) + (d &&& n) := by
  apply Nat.eq_of_testBit_eq
  intro i
  have hdn : d &&& n < 2 ^ 8 := Nat.and_lt_two_pow d hn
  rw [Nat.testBit_and, show 256 * q + d = 2 ^ 8 * q + d from rfl, show 256 * M + n = 2 ^ 8 * M + n from rfl, show 256 * (q &&& M) + (d &&& n) = 2 ^ 8 * (q &&& M) + (d &&& n) from rfl,
    Nat.testBit_two_pow_mul_add q hd, Nat.testBit_two_pow_mul_add M hn, Nat.testBit_two_pow_mul_add _ hdn]
  by_cases h : i < 8
  · simp [h, Nat.testBit_and]
  · simp [h, Nat.testBit_and]
def st1 (k x : Nat) : Nat := (x / 2 &&& rep 85 k) + (x &&& rep 85 k)
def st2 (k y : Nat) : Nat := (y / 4 &&& rep 51 k) + (y &&& rep 51 k)
theorem low1 : ∀ a : Fin 2, ∀ d : Fin 256, (128 * a.val + d.val / 2) &&& 85 = d.val / 2 &&& 85 := by decide +kernel
theorem low2 : ∀ a : Fin 4, ∀ d : Fin 256, (64 * a.val + d.val / 4) &&& 51 = d.val / 4 &&& 51 := by decide +kernel
theorem st1_one (d : Nat) : st1 1 d = (d / 2 &&& 85) + (d &&& 85) := rfl
theorem st2_one (d : Nat) : st2 1 d = (d / 4 &&& 51) + (d &&& 51) := rfl
theorem st1_step (k q d : Nat) (hd : d < 256) : st1 (k + 1) (256 * q + d) = 256 * st1 k q + st1 1 d := by
  rw [st1_one]
  unfold st1
  rw [rep, show (256 * q + d) / 2 = 256 * (q / 2) + (128 * (q % 2) + d / 2) by omega, and_split _ _ _ _ (by omega) (by omega), and_split _ _ _ _ hd (by omega)]
  have := low1 ⟨q % 2, by omega⟩ ⟨d, hd⟩
  simp only at this
  rw [this]
  omega
theorem st2_step (k q d : Nat) (hd : d < 256) : st2 (k + 1) (256 * q + d) = 256 * st2 k q + st2 1 d := by
  rw [st2_one]
  unfold st2
  rw [rep, show (256 * q + d) / 4 = 256 * (q / 4) + (64 * (q % 4) + d / 4) by omega, and_split _ _ _ _ (by omega) (by omega), and_split _ _ _ _ hd (by omega)]
  have := low2 ⟨q % 4, by omega⟩ ⟨d, hd⟩
  simp only at this
  rw [this]
  omega
theorem byte_facts : ∀ d : Fin 256, st1 1 d.val < 256 ∧ st2 1 (st1 1 d.val) % 16 ≤ 4 ∧ st2 1 (st1 1 d.val) / 16 ≤ 4 ∧ (st2 1 (st1 1 d.val) / 16 + st2 1 (st1 1 d.val)) % 16 = pcN 8 d.val := by decide +kernel
theorem st1_zero (k : Nat) : st1 k 0 = 0 := by unfold st1; simp
theorem st2_zero (k : Nat) : st2 k 0 = 0 := by unfold st2; simp
theorem and15 (a : Nat) : a &&& 15 = a % 16 := Nat.and_two_pow_sub_one_eq_mod (n := 4) a
theorem swar (x0 x1 x2 : Nat) (h0 : x0 < 256) (h1 : x1 < 256) (h2 : x2 < 256) :
    ∃ a b c, st2 8 (st1 8 (256 * (256 * x2 + x1) + x0)) = 256 * (256 * c + b) + a ∧ a % 16 ≤ 4 ∧ a / 16 ≤ 4 ∧ b % 16 ≤ 4 ∧ b / 16 ≤ 4 ∧ c % 16 ≤ 4 ∧ c / 16 ≤ 4 ∧
      (a / 16 + a) % 16 = pcN 8 x0 ∧ (b / 16 + b) % 16 = pcN 8 x1 ∧ (c / 16 + c) % 16 = pcN 8 x2 := by
  obtain ⟨a1, a2, a3, a4⟩ := byte_facts ⟨x0, h0⟩
  obtain ⟨b1, b2, b3, b4⟩ := byte_facts ⟨x1, h1⟩
  obtain ⟨c1, c2, c3, c4⟩ := byte_facts ⟨x2, h2⟩
  simp only at a1 a2 a3 a4 b1 b2 b3 b4 c1 c2 c3 c4
  refine ⟨st2 1 (st1 1 x0), st2 1 (st1 1 x1), st2 1 (st1 1 x2), ?_, a2, a3, b2, b3, c2, c3, a4, b4, c4⟩
  have e6 : st1 6 x2 = st1 1 x2 := by
    have := st1_step 5 0 x2 h2
    rw [st1_zero, Nat.mul_zero, Nat.zero_add, Nat.zero_add] at this
    exact this
  have f6 : st2 6 (st1 1 x2) = st2 1 (st1 1 x2) := by
    have := st2_step 5 0 (st1 1 x2) c1
    rw [st2_zero, Nat.mul_zero, Nat.zero_add, Nat.zero_add] at this
    exact this
  rw [st1_step 7 _ _ h0, st1_step 6 _ _ h1, e6, st2_step 7 _ _ a1, st2_step 6 _ _ b1, f6]
theorem st3 (a b c : Nat) (ha : a % 16 ≤ 4 ∧ a / 16 ≤ 4) (hb : b % 16 ≤ 4 ∧ b / 16 ≤ 4) (hc : c % 16 ≤ 4 ∧ c / 16 ≤ 4) :
    ((256 * (256 * c + b) + a) / 16 + (256 * (256 * c + b) + a)) &&& rep 15 8 = 256 * (256 * ((c / 16 + c) % 16) + (b / 16 + b) % 16) + (a / 16 + a) % 16 := by
  have e : (256 * (256 * c + b) + a) / 16 + (256 * (256 * c + b) + a) = 256 * (256 * (256 * 0 + (c / 16 + c)) + (16 * (c % 16) + b / 16 + b)) + (16 * (b % 16) + a / 16 + a) := by omega
  rw [e, show rep 15 8 = 256 * (256 * (256 * rep 15 5 + 15) + 15) + 15 from rfl, and_split _ _ _ _ (by omega) (by omega), and_split _ _ _ _ (by omega) (by omega), and_split _ _ _ _ (by omega) (by omega), and15, and15, and15, Nat.zero_and]
  omega
theorem pcN_add : ∀ (i j x : Nat), pcN (i + j) x = pcN i x + pcN j (x / 2 ^ i) := by
  intro i
  induction i with
  | zero => intro j x; simp [pcN]
  | succ i ih =>
    intro j x
    rw [Nat.add_right_comm, pcN, pcN, ih, Nat.pow_succ, Nat.mul_comm (2 ^ i) 2, ← Nat.div_div_eq_div_mul]
    omega
theorem pcN_mod (i x : Nat) : pcN i (x % 2 ^ i) = pcN i x := by
  rw [pcN_eq, pcN_eq]
  apply List.countP_congr
  intro k hk
  rw [List.mem_range] at hk
  simp [Nat.testBit_mod_two_pow, hk]
theorem pcN_bytes (x : Nat) (h : x < 16777216) : pcN 64 x = pcN 8 (x % 256) + pcN 8 (x / 256 % 256) + pcN 8 (x / 65536) := by
  rw [show 64 = 8 + (8 + (8 + 40)) from rfl, pcN_add 8, pcN_add 8, pcN_add 8]
  have e1 : pcN 8 (x % 256) = pcN 8 x := pcN_mod 8 x
  have e2 : pcN 8 (x / 256 % 256) = pcN 8 (x / 256) := pcN_mod 8 _
  have e3 : x / 2 ^ 8 / 2 ^ 8 / 2 ^ 8 = 0 := by omega
  rw [e1, e2, e3, pcN_zero, show x / 2 ^ 8 / 2 ^ 8 = x / 65536 by omega]
  show _ + (_ + (_ + 0)) = _
  rw [show x / 2 ^ 8 = x / 256 from rfl]
  omega
theorem pcN_le : ∀ (k x : Nat), pcN k x ≤ k := by
  intro k
  induction k with
  | zero => intro x; exact Nat.le_refl _
  | succ k ih => intro x; rw [pcN]; have := ih (x / 2); omega
theorem wrapU (a : Int) (h0 : 0 ≤ a) (h1 : a < 18446744073709551616) : IntKind.u64.wrap a = a := by
  have : IntKind.u64.wrap a = a % 18446744073709551616 := by simp [IntKind.wrap, IntKind.bits, IntKind.signed]
  rw [this]
  exact Int.emod_eq_of_lt h0 h1
theorem sum3 (k0 k1 k2 u v z : Nat) (h0 : k0 ≤ 8) (h1 : k1 ≤ 8) (h2 : k2 ≤ 8) (hu : u = 256 * (256 * k2 + k1) + k0) (hv : v = u + u / 256 + (u + u / 256) / 65536) (hz : z = v + v / 4294967296) : z % 128 = k0 + k1 + k2 := by
  have e1 : u / 256 = 256 * k2 + k1 := by omega
  have e2 : u + u / 256 = 65536 * k2 + 256 * (k1 + k2) + (k0 + k1) := by omega
  have e3 : (u + u / 256) / 65536 = k2 := by omega
  have e4 : v = 65536 * k2 + 256 * (k1 + k2) + (k0 + k1 + k2) := by omega
  have e5 : v / 4294967296 = 0 := by omega
  omega
theorem oc64 (x : Nat) (hx : x < 16777216) : F.bits_OnesCount64.f (x : Int) = some ((pcN 64 x : Nat) : Int) := by
  obtain ⟨a, b, c, hz, a1, a2, b1, b2, c1, c2, r0, r1, r2⟩ := swar (x % 256) (x / 256 % 256) (x / 65536) (by omega) (by omega) (by omega)
  rw [show 256 * (256 * (x / 65536) + x / 256 % 256) + x % 256 = x by omega] at hz
  have hs3 := st3 a b c ⟨a1, a2⟩ ⟨b1, b2⟩ ⟨c1, c2⟩
  rw [r0, r1, r2] at hs3
  have hp := pcN_bytes x hx
  have l0 := pcN_le 8 (x % 256)
  have l1 := pcN_le 8 (x / 256 % 256)
  have l2 := pcN_le 8 (x / 65536)
  -- the first step
  obtain ⟨p, hp1⟩ : ∃ p, x / 2 &&& rep 85 8 = p := ⟨_, rfl⟩
  obtain ⟨q, hq1⟩ : ∃ q, x &&& rep 85 8 = q := ⟨_, rfl⟩
  have pl : p ≤ x / 2 := by rw [← hp1]; exact Nat.and_le_left
  have ql : q ≤ x := by rw [← hq1]; exact Nat.and_le_left
  have hy : st1 8 x = p + q := by unfold st1; rw [hp1, hq1]
  have f1 : Go.bits .and .u64 ((x : Int) / 2) 6148914691236517205 = ((p : Nat) : Int) := by
    have := u64_and_nat (x / 2) (rep 85 8) (by omega) (by decide)
    rw [hp1] at this
    rw [← this]; rfl
  have f2 : Go.bits .and .u64 (x : Int) 6148914691236517205 = ((q : Nat) : Int) := by
    have := u64_and_nat x (rep 85 8) (by omega) (by decide)
    rw [hq1] at this
    rw [← this]; rfl
  have f3 : IntKind.u64.wrap (((p : Nat) : Int) + ((q : Nat) : Int)) = ((p + q : Nat) : Int) := by rw [wrapU _ (by omega) (by omega)]; omega
  -- the second
  obtain ⟨s, hs1⟩ : ∃ s, (p + q) / 4 &&& rep 51 8 = s := ⟨_, rfl⟩
  obtain ⟨t, ht1⟩ : ∃ t, (p + q) &&& rep 51 8 = t := ⟨_, rfl⟩
  have sl : s ≤ (p + q) / 4 := by rw [← hs1]; exact Nat.and_le_left
  have tl : t ≤ p + q := by rw [← ht1]; exact Nat.and_le_left
  have hy2 : st2 8 (p + q) = s + t := by unfold st2; rw [hs1, ht1]
  rw [hy, hy2] at hz
  have f4 : Go.bits .and .u64 (((p + q : Nat) : Int) / 4) 3689348814741910323 = ((s : Nat) : Int) := by
    have := u64_and_nat ((p + q) / 4) (rep 51 8) (by omega) (by decide)
    rw [hs1] at this
    rw [← this]; rfl
  have f5 : Go.bits .and .u64 ((p + q : Nat) : Int) 3689348814741910323 = ((t : Nat) : Int) := by
    have := u64_and_nat (p + q) (rep 51 8) (by omega) (by decide)
    rw [ht1] at this
    rw [← this]; rfl
  have f6 : IntKind.u64.wrap (((s : Nat) : Int) + ((t : Nat) : Int)) = ((s + t : Nat) : Int) := by rw [wrapU _ (by omega) (by omega)]; omega
  -- the third
  have f7 : IntKind.u64.wrap (((s + t : Nat) : Int) / 16 + ((s + t : Nat) : Int)) = (((s + t) / 16 + (s + t) : Nat) : Int) := by rw [wrapU _ (by omega) (by omega)]; omega
  obtain ⟨u, hu⟩ : ∃ u, ((s + t) / 16 + (s + t)) &&& rep 15 8 = u := ⟨_, rfl⟩
  have f8 : Go.bits .and .u64 (((s + t) / 16 + (s + t) : Nat) : Int) 1085102592571150095 = ((u : Nat) : Int) := by
    have := u64_and_nat ((s + t) / 16 + (s + t)) (rep 15 8) (by omega) (by decide)
    rw [hu] at this
    rw [← this]; rfl
  rw [hz, hs3] at hu
  have f9 : IntKind.u64.wrap (((u : Nat) : Int) + ((u : Nat) : Int) / 256) = ((u + u / 256 : Nat) : Int) := by rw [wrapU _ (by omega) (by omega)]; omega
  have f10 : IntKind.u64.wrap (((u + u / 256 : Nat) : Int) + ((u + u / 256 : Nat) : Int) / 65536) = ((u + u / 256 + (u + u / 256) / 65536 : Nat) : Int) := by rw [wrapU _ (by omega) (by omega)]; omega
  obtain ⟨v, hv⟩ : ∃ v, u + u / 256 + (u + u / 256) / 65536 = v := ⟨_, rfl⟩
  rw [hv] at f10
  have f11 : IntKind.u64.wrap (((v : Nat) : Int) + ((v : Nat) : Int) / 4294967296) = ((v + v / 4294967296 : Nat) : Int) := by rw [wrapU _ (by omega) (by omega)]; omega
  obtain ⟨z, hzz⟩ : ∃ z, v + v / 4294967296 = z := ⟨_, rfl⟩
  rw [hzz] at f11
  have f12 : wrap64 ((z : Nat) : Int) = ((z : Nat) : Int) := by unfold wrap64; omega
  have f13 : Go.bits .and .i64 ((z : Nat) : Int) 127 = ((pcN 64 x : Nat) : Int) := by
    have := sum3 (pcN 8 (x % 256)) (pcN 8 (x / 256 % 256)) (pcN 8 (x / 65536)) u v z l0 l1 l2 hu.symm hv.symm hzz.symm
    rw [i64_and127, hp, ← this]
    rfl
  unfold F.bits_OnesCount64.f
  simp only [f1, f2, f3, f4, f5, f6, f7, f8, f9, f10, f11, f12, f13]
theorem bitsDiff (a b : Nat) (ha : a < 16777216) (hb : b < 16777216) : F.decoder_FormatInformation_NumBitsDiffering.f (a : Int) (b : Int) = some ((hd a b : Nat) : Int) := by
  unfold F.decoder_FormatInformation_NumBitsDiffering.f F.bits_OnesCount.f
  rw [u64_xor_nat a b (by omega) (by omega), oc64 _ (Nat.xor_lt_two_pow (n := 24) ha hb)]
  rfl

/-! ### The map of one entry, and what is asked of it -/
theorem getObj_map (W : World) (r : Nat) (es : Array MapEntry) (c : Nat) (h : W.heap[r]? = some (.map es c)) : (getObj r).run Tryz.prog W = .ok (.map es c) W := by simp [getObj, Sem.run, h]
theorem setObj_map (W : World) (r : Nat) (es : Array MapEntry) (c : Nat) (o : Obj) (h : W.heap[r]? = some (.map es c)) : (setObj r o).run Tryz.prog W = .ok () { W with heap := W.heap.setIfInBounds r o } := by simp [setObj, Sem.run, h]
theorem push_set (h : Array Obj) (x o : Obj) : (h.push x).setIfInBounds h.size o = h.push o := by
  apply Array.toList_inj.1
  simp
theorem run_ta (v : Int) (W : World) : (Instr.typeAssert (.iface 3 (.int .i64 v)) 20 3 true).run Tryz.prog W = .ok (.tuple #[.int .i64 v, .bool true]) W := by kernel_rfl

theorem alloc_set (w : World) (t : TypeId) (cs : Array Value) (i : Nat) (v : Value) : (w.alloc (.cells cs t)).setCell ⟨w.heap.size, i, none⟩ v = w.alloc (.cells (cs.setIfInBounds i v) t) := by
  have e : ((w.alloc (.cells cs t)).setCell ⟨w.heap.size, i, none⟩ v).heap = w.heap.push (.cells (cs.setIfInBounds i v) t) := by
    apply Array.ext_getElem?
    intro k
    by_cases hk : k = w.heap.size
    · subst hk
      have h := blk_set (heap_alloc_new w (.cells cs t)) i v
      simpa using h
    · rw [Below.heap_setCell _ _ _ _ hk]
      by_cases hl : k < w.heap.size
      · rw [Below.heap_alloc _ _ _ hl, Array.getElem?_push]
        simp [hk]
      · have h1 : (w.alloc (.cells cs t)).heap[k]? = none := Array.getElem?_eq_none (by simp; omega)
        rw [h1]
        exact (Array.getElem?_eq_none (by simp; omega)).symm
  exact congrArg (fun hp => ({ w with heap := hp } : World)) e
theorem newExc (w : World) (s : ByteArray) (v : Value) :
    Calls Tryz.prog 131 #[.string s, v] w fun e w' => e = .returned (.agg #[.string s, .nilIface]) ∧ Below w.heap.size w w' := by
  go_enter Tryz.func131, Tryz.ntmps131
  go_wp2
  exact bodyPost_ret (v := .agg #[.string s, .nilIface]) (by simp [results, Tryz.results131, go_sem]) rfl ⟨rfl, (Below.refl _ _).alloc (Nat.le_refl _) _⟩
theorem C_nums {w : World} {g : Nat} {t : TypeId} {k : IntKind} {xs : List Int} (h : Blk w g t (nums k xs).toArray) (hl : xs.length ≤ 9223372036854775807) : Kd.C (Kd.int k) w (some ⟨g, 0, none⟩) xs.length xs := by
  refine Kd.C_of_reads (enc := Value.int k) (d := (0 : Int)) (h1 := fun _ => rfl) ⟨rfl, hl, fun _ => ⟨_, rfl, fun j hj => ?_⟩⟩
  have := h.ucell (j : Int) (by omega) (by omega)
  rw [add_plain]
  simpa [rd] using this
theorem C_bools {w : World} {g : Nat} {t : TypeId} {xs : List Bool} (h : Blk w g t (bools xs).toArray) (hl : xs.length ≤ 9223372036854775807) : Kd.C Kd.bool w (some ⟨g, 0, none⟩) xs.length xs := by
  refine Kd.C_of_reads (enc := Value.bool) (d := false) (h1 := fun _ => rfl) ⟨rfl, hl, fun _ => ⟨_, rfl, fun j hj => ?_⟩⟩
  have := h.bcell (j : Int) (by omega) (by omega)
  rw [add_plain]
  simpa [rdOf] using this

/-! ### Errors -/
theorem errNew (w : World) (s : ByteArray) : Calls Tryz.prog 103 #[.string s] w fun e w' => e = .returned (.iface 216 (.pointer (some ⟨w.heap.size, 0, none⟩))) ∧ w' = w.alloc (.cells #[.string s] 218) := by
  go_enter Tryz.func103, Tryz.ntmps103
  go_wp2
  go_ret
  exact ⟨rfl, rfl⟩
def fmtStr : ByteArray := ⟨#[70, 111, 114, 109, 97, 116, 69, 120, 99, 101, 112, 116, 105, 111, 110]⟩
theorem newFmt (w : World) (v : Value) : Calls Tryz.prog 89 #[v] w fun e w' => (∃ x, e = .returned (.iface 208 x)) ∧ Below w.heap.size w w' := by
  go_enter Tryz.func89, Tryz.ntmps89
  go_wp2_with (go_at_call 131; refine (newExc w _ v).mono ?_; rintro e w' ⟨rfl, hb⟩)
  go_ret
  exact ⟨⟨_, rfl⟩, hb⟩
theorem wrapExc (w : World) (s : ByteArray) (t : TypeId) (x : Value) :
    Calls Tryz.prog 129 #[.string s, .iface t x] w fun e w' => e = .returned (.agg #[.string s, .iface t x]) ∧ Below w.heap.size w w' := by
  go_enter Tryz.func129, Tryz.ntmps129
  go_wp2
  exact bodyPost_ret (v := .agg #[.string s, .iface t x]) (by simp [results, Tryz.results129, go_sem]) rfl ⟨rfl, (Below.refl _ _).alloc (Nat.le_refl _) _⟩
theorem wrapFmt (w : World) (t : TypeId) (x : Value) : Calls Tryz.prog 87 #[.iface t x] w fun e w' => (∃ y, e = .returned (.iface 208 y)) ∧ Below w.heap.size w w' := by
  go_enter Tryz.func87, Tryz.ntmps87
  go_wp2_with (go_at_call 129; refine (wrapExc w _ t x).mono ?_; rintro e w' ⟨rfl, hb⟩)
  go_ret
  exact ⟨⟨_, rfl⟩, hb⟩

/-! ### A matrix of bits: its words and what they say -/
theorem bmSet (w : World) (g gb : Nat) (wd ht rs x y o : Int) (xs : List Int) (N : Nat)
    (hg : Blk w g 201 #[.int .i64 wd, .int .i64 ht, .int .i64 rs, .slice (some ⟨gb, 0, none⟩) N N]) (hb : Blk w gb 214 (nums .u32 xs).toArray) (hl : xs.length = N) (hN : N ≤ 1000000000)
    (ho : y * rs = o) (h0 : 0 ≤ o) (h1 : 0 ≤ x) (h2 : x ≤ 100000000) (h3 : o + x / 32 < (N : Int)) :
    Calls Tryz.prog 148 #[.pointer (some ⟨g, 0, none⟩), .int .i64 x, .int .i64 y] w fun e w' => e = .returned (.tuple #[]) ∧ Blk w' gb 214 (nums .u32 (orBit xs o x)).toArray ∧ Turn w w' gb := by
  have c2 : w.cell? ⟨g, 2, none⟩ = some (.int .i64 rs) := hg.cell 2
  have c3 : w.cell? ⟨g, 3, none⟩ = some (.slice (some ⟨gb, 0, none⟩) N N) := hg.cell 3
  have c4 : w.cell? ⟨gb, (o + x / 32).toNat, none⟩ = some (.int .u32 (rd xs (o + x / 32))) := hb.ucell _ (by omega) (by omega)
  have c5 := hb.frozen (o + x / 32).toNat
  have hw : wrap64 (y * rs) = o := by rw [ho]; unfold wrap64; omega
  have HB := Aside0.mk hb
  have HO := Aside0.mk ho
  have HL := Aside0.mk hl
  clear hg hb ho hl
  go_enter Tryz.func148, Tryz.ntmps148
  go_wp2
  go_end0
  exact ⟨rfl, HB.out.uset _ _, Turn.set _ _ _ _⟩
/-- The bit x of a row of bits from the word o on is turned. -/
def xorBit (xs : List Int) (o x : Int) : List Int := xs.set (o + x / 32).toNat (Go.bits .xor .u32 (rd xs (o + x / 32)) (2 ^ (x % 32).toNat % 4294967296))
theorem bmFlip (w : World) (g gb : Nat) (wd ht rs x y o : Int) (xs : List Int) (N : Nat)
    (hg : Blk w g 201 #[.int .i64 wd, .int .i64 ht, .int .i64 rs, .slice (some ⟨gb, 0, none⟩) N N]) (hb : Blk w gb 214 (nums .u32 xs).toArray) (hl : xs.length = N) (hN : N ≤ 1000000000)
    (ho : y * rs = o) (h0 : 0 ≤ o) (h1 : 0 ≤ x) (h2 : x ≤ 100000000) (h3 : o + x / 32 < (N : Int)) :
    Calls Tryz.prog 140 #[.pointer (some ⟨g, 0, none⟩), .int .i64 x, .int .i64 y] w fun e w' => e = .returned (.tuple #[]) ∧ Blk w' gb 214 (nums .u32 (xorBit xs o x)).toArray ∧ Turn w w' gb := by
  have c2 : w.cell? ⟨g, 2, none⟩ = some (.int .i64 rs) := hg.cell 2
  have c3 : w.cell? ⟨g, 3, none⟩ = some (.slice (some ⟨gb, 0, none⟩) N N) := hg.cell 3
  have c4 : w.cell? ⟨gb, (o + x / 32).toNat, none⟩ = some (.int .u32 (rd xs (o + x / 32))) := hb.ucell _ (by omega) (by omega)
  have c5 := hb.frozen (o + x / 32).toNat
  have hw : wrap64 (y * rs) = o := by rw [ho]; unfold wrap64; omega
  have HB := Aside0.mk hb
  have HO := Aside0.mk ho
  have HL := Aside0.mk hl
  clear hg hb ho hl
  go_enter Tryz.func140, Tryz.ntmps140
  go_wp2
  go_end0
  exact ⟨rfl, HB.out.uset _ _, Turn.set _ _ _ _⟩
theorem bmGet (w : World) (g gb : Nat) (wd ht rs x y o : Int) (xs : List Int) (N : Nat)
    (hg : Blk w g 201 #[.int .i64 wd, .int .i64 ht, .int .i64 rs, .slice (some ⟨gb, 0, none⟩) N N]) (hb : Blk w gb 214 (nums .u32 xs).toArray) (hl : xs.length = N) (hN : N ≤ 1000000000)
    (ho : y * rs = o) (h0 : 0 ≤ o) (h1 : 0 ≤ x) (h2 : x ≤ 100000000) (h3 : o + x / 32 < (N : Int)) (h4 : x < wd) (h5 : 0 ≤ y) (h6 : y < ht) :
    Calls Tryz.prog 94 #[.pointer (some ⟨g, 0, none⟩), .int .i64 x, .int .i64 y] w fun e w' => e = .returned (.bool (Go.bits .and .u32 (rd xs (o + x / 32) / 2 ^ (x % 32).toNat) 1 != 0)) ∧ w = w' := by
  have c0 : w.cell? ⟨g, 0, none⟩ = some (.int .i64 wd) := hg.cell 0
  have c1 : w.cell? ⟨g, 1, none⟩ = some (.int .i64 ht) := hg.cell 1
  have c2 : w.cell? ⟨g, 2, none⟩ = some (.int .i64 rs) := hg.cell 2
  have c3 : w.cell? ⟨g, 3, none⟩ = some (.slice (some ⟨gb, 0, none⟩) N N) := hg.cell 3
  have c4 : w.cell? ⟨gb, (o + x / 32).toNat, none⟩ = some (.int .u32 (rd xs (o + x / 32))) := hb.ucell _ (by omega) (by omega)
  have hw : wrap64 (y * rs) = o := by rw [ho]; unfold wrap64; omega
  have HB := Aside0.mk hb
  have HO := Aside0.mk ho
  have HL := Aside0.mk hl
  clear hg hb ho hl
  go_enter Tryz.func94, Tryz.ntmps94
  go_wp2
  go_ret
  exact ⟨rfl, rfl⟩

/-! ### A matrix of bits as a function of column and row -/
def rsz (wd : Nat) : Nat := (wd + 31) / 32
def wbit (xs : List Int) (rs x y : Nat) : Bool := (rd xs ((y * rs + x / 32 : Nat) : Int)).toNat.testBit (x % 32)
/-- The words xs say f. -/
structure GW (wd ht : Nat) (xs : List Int) (f : Nat → Nat → Bool) : Prop where
  len : xs.length = rsz wd * ht
  lim : ∀ v ∈ xs, 0 ≤ v ∧ v < 4294967296
  bit : ∀ x y, x < wd → y < ht → wbit xs (rsz wd) x y = f x y
theorem GW.congr {wd ht : Nat} {xs : List Int} {f h : Nat → Nat → Bool} (G : GW wd ht xs f) (e : ∀ x y, x < wd → y < ht → f x y = h x y) : GW wd ht xs h :=
  ⟨G.len, G.lim, fun x y hx hy => (G.bit x y hx hy).trans (e x y hx hy)⟩
theorem rd_lim {xs : List Int} (h : ∀ v ∈ xs, 0 ≤ v ∧ v < 4294967296) (i : Int) : 0 ≤ rd xs i ∧ rd xs i < 4294967296 := by
  unfold rd
  rw [List.getD_eq_getElem?_getD]
  cases e : xs[i.toNat]? with
  | none => exact ⟨by simp, by simp⟩
  | some v => exact h v (List.mem_of_getElem? e)
theorem rd_set (xs : List Int) (i : Nat) (v : Int) (j : Nat) (h : i < xs.length) : rd (xs.set i v) (j : Int) = if i = j then v else rd xs j := by
  unfold rd
  rw [Int.toNat_natCast, List.getD_eq_getElem?_getD, List.getD_eq_getElem?_getD, List.getElem?_set]
  by_cases e : i = j
  · subst e; simp [h]
  · simp [e]
theorem pow_lim (k : Nat) (h : k < 32) : (0 : Int) ≤ ((2 ^ k : Nat) : Int) ∧ ((2 ^ k : Nat) : Int) < 4294967296 := by
  have : (2 ^ k : Nat) < 4294967296 := Nat.lt_of_lt_of_le (Nat.pow_lt_pow_right (by omega) h) (Nat.le_refl _)
  generalize (2 ^ k : Nat) = n at *
  omega
theorem pow_mask (k : Nat) (h : k < 32) : (2 : Int) ^ k % 4294967296 = ((2 ^ k : Nat) : Int) := by
  have e : (2 : Int) ^ k = ((2 ^ k : Nat) : Int) := by rw [Int.natCast_pow]; rfl
  obtain ⟨h1, h2⟩ := pow_lim k h
  rw [e]
  exact Int.emod_eq_of_lt h1 h2
theorem word_lt (wd ht x y : Nat) (hx : x < wd) (hy : y < ht) : y * rsz wd + x / 32 < rsz wd * ht := by
  have h1 : x / 32 < rsz wd := by unfold rsz; omega
  have h2 : (y + 1) * rsz wd ≤ ht * rsz wd := Nat.mul_le_mul_right _ hy
  rw [Nat.add_mul, Nat.one_mul] at h2
  rw [Nat.mul_comm (rsz wd) ht]
  omega
theorem word_inj (wd x y a c : Nat) (hx : x < wd) (ha : a < wd) (h : y * rsz wd + x / 32 = c * rsz wd + a / 32) : y = c ∧ x / 32 = a / 32 := by
  have h1 : x / 32 < rsz wd := by unfold rsz; omega
  have h2 : a / 32 < rsz wd := by unfold rsz; omega
  have e1 : (y * rsz wd + x / 32) / rsz wd = (c * rsz wd + a / 32) / rsz wd := by rw [h]
  have hp : 0 < rsz wd := by omega
  rw [Nat.mul_comm y, Nat.mul_comm c, Nat.mul_add_div hp, Nat.mul_add_div hp, Nat.div_eq_of_lt h1, Nat.div_eq_of_lt h2] at e1
  have : y = c := by omega
  subst this
  exact ⟨rfl, by omega⟩
theorem GW.turn {wd ht : Nat} {xs : List Int} {f : Nat → Nat → Bool} (G : GW wd ht xs f) (x y : Nat) (hx : x < wd) (hy : y < ht) (v : Nat) (hv : v < 4294967296) (b : Bool)
    (hb : ∀ k, k < 32 → v.testBit k = if k = x % 32 then b else (rd xs ((y * rsz wd + x / 32 : Nat) : Int)).toNat.testBit k) :
    GW wd ht (xs.set (y * rsz wd + x / 32) (v : Int)) (fun a c => if a = x ∧ c = y then b else f a c) := by
  have hlt := word_lt wd ht x y hx hy
  refine ⟨by rw [List.length_set, G.len], ?_, ?_⟩
  · intro u hu
    rcases List.mem_or_eq_of_mem_set hu with h | h
    · exact G.lim u h
    · subst h; omega
  · intro a c ha hc
    unfold wbit
    rw [rd_set _ _ _ _ (by rw [G.len]; exact hlt)]
    by_cases e : y * rsz wd + x / 32 = c * rsz wd + a / 32
    · obtain ⟨rfl, e2⟩ := word_inj wd x y a c hx ha e
      rw [if_pos e, Int.toNat_natCast, hb _ (by omega)]
      by_cases e3 : a = x
      · subst e3
        rw [if_pos rfl, if_pos ⟨rfl, rfl⟩]
      · rw [if_neg (by omega), if_neg (by rintro ⟨h, _⟩; exact e3 h), e2]
        exact G.bit a y ha hy
    · rw [if_neg e, if_neg]
      · exact G.bit a c ha hc
      · rintro ⟨rfl, rfl⟩; exact e rfl
theorem or_bit (a k : Nat) (ha : a < 4294967296) (hk : k < 32) : (a ||| 2 ^ k) < 4294967296 ∧ ∀ i, i < 32 → (a ||| 2 ^ k).testBit i = if i = k then true else a.testBit i := by
  have h2 : 2 ^ k < 4294967296 := Nat.lt_of_lt_of_le (Nat.pow_lt_pow_right (by omega) hk) (Nat.le_refl _)
  refine ⟨Nat.or_lt_two_pow (n := 32) ha h2, fun i hi => ?_⟩
  rw [Nat.testBit_or, Nat.testBit_two_pow]
  by_cases e : i = k
  · subst e; simp
  · rw [if_neg e]; simp [show ¬ k = i from fun h => e h.symm]
theorem xor_bit (a k : Nat) (ha : a < 4294967296) (hk : k < 32) : (a ^^^ 2 ^ k) < 4294967296 ∧ ∀ i, i < 32 → (a ^^^ 2 ^ k).testBit i = if i = k then !a.testBit k else a.testBit i := by
  have h2 : 2 ^ k < 4294967296 := Nat.lt_of_lt_of_le (Nat.pow_lt_pow_right (by omega) hk) (Nat.le_refl _)
  refine ⟨Nat.xor_lt_two_pow (n := 32) ha h2, fun i hi => ?_⟩
  rw [Nat.testBit_xor, Nat.testBit_two_pow]
  by_cases e : i = k
  · subst e; simp
  · rw [if_neg e]; simp [show ¬ k = i from fun h => e h.symm]
theorem u32_mask (x : Nat) : (2 : Int) ^ (((x : Nat) : Int) % 32).toNat % 4294967296 = ((2 ^ (x % 32) : Nat) : Int) := by
  rw [show (((x : Nat) : Int) % 32).toNat = x % 32 by omega]
  exact pow_mask _ (by omega)
theorem at_word (y rs x : Nat) : (((y * rs : Nat) : Int) + (x : Int) / 32).toNat = y * rs + x / 32 := by omega
theorem at_word' (y rs x : Nat) : ((y * rs : Nat) : Int) + (x : Int) / 32 = ((y * rs + x / 32 : Nat) : Int) := by omega
theorem GW.or {wd ht : Nat} {xs : List Int} {f : Nat → Nat → Bool} (G : GW wd ht xs f) (x y : Nat) (hx : x < wd) (hy : y < ht) :
    GW wd ht (orBit xs ((y * rsz wd : Nat) : Int) (x : Int)) (fun a c => if a = x ∧ c = y then true else f a c) := by
  unfold orBit
  obtain ⟨l1, l2⟩ := rd_lim G.lim ((y * rsz wd + x / 32 : Nat) : Int)
  rw [u32_mask, at_word', Int.toNat_natCast, u32_or _ _ l1 l2 (pow_lim (x % 32) (by omega)).1 (pow_lim (x % 32) (by omega)).2, Int.toNat_natCast]
  obtain ⟨o1, o2⟩ := or_bit (rd xs ((y * rsz wd + x / 32 : Nat) : Int)).toNat (x % 32) (by omega) (by omega)
  exact G.turn x y hx hy _ o1 true o2
theorem GW.xor {wd ht : Nat} {xs : List Int} {f : Nat → Nat → Bool} (G : GW wd ht xs f) (x y : Nat) (hx : x < wd) (hy : y < ht) :
    GW wd ht (xorBit xs ((y * rsz wd : Nat) : Int) (x : Int)) (fun a c => if a = x ∧ c = y then !f a c else f a c) := by
  unfold xorBit
  obtain ⟨l1, l2⟩ := rd_lim G.lim ((y * rsz wd + x / 32 : Nat) : Int)
  rw [u32_mask, at_word', Int.toNat_natCast, u32_xor _ _ l1 l2 (pow_lim (x % 32) (by omega)).1 (pow_lim (x % 32) (by omega)).2, Int.toNat_natCast]
  obtain ⟨o1, o2⟩ := xor_bit (rd xs ((y * rsz wd + x / 32 : Nat) : Int)).toNat (x % 32) (by omega) (by omega)
  refine (G.turn x y hx hy _ o1 _ o2).congr ?_
  intro a c ha hc
  by_cases e : a = x ∧ c = y
  · rw [if_pos e, if_pos e, e.1, e.2]
    congr 1
    exact G.bit x y hx hy
  · rw [if_neg e, if_neg e]
theorem GW.get {wd ht : Nat} {xs : List Int} {f : Nat → Nat → Bool} (G : GW wd ht xs f) (x y : Nat) (hx : x < wd) (hy : y < ht) :
    (Go.bits .and .u32 (rd xs (((y * rsz wd : Nat) : Int) + (x : Int) / 32) / 2 ^ (((x : Nat) : Int) % 32).toNat) 1 != 0) = f x y := by
  obtain ⟨l1, l2⟩ := rd_lim G.lim ((y * rsz wd + x / 32 : Nat) : Int)
  rw [at_word', show (((x : Nat) : Int) % 32).toNat = x % 32 by omega]
  have hb := G.bit x y hx hy
  unfold wbit at hb
  obtain ⟨a, ha⟩ := Int.eq_ofNat_of_zero_le l1
  rw [ha] at hb l2 ⊢
  rw [Int.toNat_natCast] at hb
  have e : ((a : Int) / 2 ^ (x % 32)) = ((a / 2 ^ (x % 32) : Nat) : Int) := by
    rw [Int.natCast_ediv, Int.natCast_pow]; rfl
  have hle : a / 2 ^ (x % 32) ≤ a := Nat.div_le_self _ _
  have e1 := u32_and_nat (a / 2 ^ (x % 32)) 1 (by omega) (by omega)
  rw [e, show (1 : Int) = ((1 : Nat) : Int) from rfl, e1, ← hb, Nat.testBit_eq_decide_div_mod_eq, Nat.and_one_is_mod]
  by_cases h : a / 2 ^ (x % 32) % 2 = 1
  · rw [h]; rfl
  · rw [show a / 2 ^ (x % 32) % 2 = 0 by omega]; rfl
theorem GW.zero (wd ht : Nat) : GW wd ht (List.replicate (rsz wd * ht) 0) (fun _ _ => false) := by
  refine ⟨List.length_replicate, ?_, ?_⟩
  · intro v hv
    rw [List.mem_replicate] at hv
    omega
  · intro x y hx hy
    unfold wbit rd
    have h := word_lt wd ht x y hx hy
    rw [Int.toNat_natCast, List.getD_eq_getElem?_getD, List.getElem?_replicate, if_pos h]
    simp
theorem GW.row {wd ht : Nat} (y left : Nat) (hy : y < ht) : ∀ (n : Nat) {xs : List Int} {f : Nat → Nat → Bool}, left + n ≤ wd → GW wd ht xs f →
    GW wd ht (sregX xs ((y * rsz wd : Nat) : Int) (left : Int) n) (fun a c => if left ≤ a ∧ a < left + n ∧ c = y then true else f a c) := by
  intro n
  induction n with
  | zero =>
    intro xs f _ G
    refine G.congr fun a c _ _ => ?_
    rw [if_neg (by omega)]
  | succ n ih =>
    intro xs f h G
    rw [sregX, show ((left : Nat) : Int) + ((n : Nat) : Int) = ((left + n : Nat) : Int) by omega]
    refine ((ih (by omega) G).or (left + n) y (by omega) hy).congr fun a c _ _ => ?_
    by_cases e : a = left + n ∧ c = y
    · rw [if_pos e, if_pos (by omega)]
    · rw [if_neg e]
      by_cases e2 : left ≤ a ∧ a < left + n ∧ c = y
      · rw [if_pos e2, if_pos (by omega)]
      · rw [if_neg e2, if_neg (by omega)]
theorem GW.region {wd ht : Nat} (left n top : Nat) (hn : left + n ≤ wd) : ∀ (m : Nat) {xs : List Int} {f : Nat → Nat → Bool}, top + m ≤ ht → GW wd ht xs f →
    GW wd ht (sreg xs ((rsz wd : Nat) : Int) (left : Int) n (top : Int) m) (fun a c => inReg left top n m a c || f a c) := by
  intro m
  induction m with
  | zero =>
    intro xs f _ G
    refine G.congr fun a c _ _ => ?_
    rw [show inReg left top n 0 a c = false from by unfold inReg; rw [decide_eq_false_iff_not]; omega, Bool.false_or]
  | succ m ih =>
    intro xs f h G
    rw [sreg, show (((top : Nat) : Int) + ((m : Nat) : Int)) * ((rsz wd : Nat) : Int) = (((top + m) * rsz wd : Nat) : Int) by rw [Int.natCast_mul, Int.natCast_add]]
    refine (GW.row (top + m) left (by omega) n hn (ih (by omega) G)).congr fun a c _ _ => ?_
    unfold inReg
    by_cases e : left ≤ a ∧ a < left + n ∧ c = top + m
    · rw [if_pos e, decide_eq_true (by omega), Bool.true_or]
    · rw [if_neg e]
      congr 1
      rw [decide_eq_decide]
      omega
/-- Block g is a matrix of wd columns and ht rows that says f; its words lie in block b. -/
def Grid (w : World) (g b wd ht : Nat) (f : Nat → Nat → Bool) : Prop := ∃ xs : List Int,
  Blk w g 201 #[.int .i64 (wd : Int), .int .i64 (ht : Int), .int .i64 (rsz wd : Int), .slice (some ⟨b, 0, none⟩) (rsz wd * ht) (rsz wd * ht)] ∧ Blk w b 214 (nums .u32 xs).toArray ∧ GW wd ht xs f
theorem Grid.congr {w : World} {g b wd ht : Nat} {f h : Nat → Nat → Bool} (G : Grid w g b wd ht f) (e : ∀ x y, x < wd → y < ht → f x y = h x y) : Grid w g b wd ht h := by
  obtain ⟨xs, h1, h2, h3⟩ := G
  exact ⟨xs, h1, h2, h3.congr e⟩
theorem Grid.ne {w : World} {g b wd ht : Nat} {f : Nat → Nat → Bool} (G : Grid w g b wd ht f) : g ≠ b := by
  obtain ⟨xs, h1, h2, h3⟩ := G
  exact blk_ne h1 h2 (by decide)
theorem Grid.keep {w w' : World} {g b wd ht : Nat} {f : Nat → Nat → Bool} (G : Grid w g b wd ht f) (hg : w'.heap[g]? = w.heap[g]?) (hb : w'.heap[b]? = w.heap[b]?) : Grid w' g b wd ht f := by
  obtain ⟨xs, h1, h2, h3⟩ := G
  exact ⟨xs, hg.trans h1, hb.trans h2, h3⟩
theorem Grid.lt {w : World} {g b wd ht : Nat} {f : Nat → Nat → Bool} (G : Grid w g b wd ht f) : g < w.heap.size ∧ b < w.heap.size := by
  obtain ⟨xs, h1, h2, h3⟩ := G
  exact ⟨h1.lt, h2.lt⟩
theorem Grid.below {w w' : World} {g b wd ht B : Nat} {f : Nat → Nat → Bool} (G : Grid w g b wd ht f) (hb : Below B w w') (h1 : g < B) (h2 : b < B) : Grid w' g b wd ht f := G.keep (hb.block g h1) (hb.block b h2)
theorem small_mul (wd ht : Nat) (h1 : wd ≤ 1000) (h2 : ht ≤ 1000) : rsz wd * ht ≤ 1000000 := Nat.le_trans (Nat.mul_le_mul (show rsz wd ≤ 1000 by unfold rsz; omega) h2) (by omega)
theorem rsz_int (wd : Nat) : ((wd : Int) + 31) / 32 = ((rsz wd : Nat) : Int) := by unfold rsz; omega
theorem gridSet (w : World) (g b wd ht : Nat) (f : Nat → Nat → Bool) (x y : Nat) (G : Grid w g b wd ht f) (hx : x < wd) (hy : y < ht) (hw : wd ≤ 1000) (hh : ht ≤ 1000) :
    Calls Tryz.prog 148 #[.pointer (some ⟨g, 0, none⟩), .int .i64 (x : Int), .int .i64 (y : Int)] w fun e w' => e = .returned (.tuple #[]) ∧ Grid w' g b wd ht (fun a c => if a = x ∧ c = y then true else f a c) ∧ Turn w w' b := by
  have hne := G.ne
  obtain ⟨xs, h1, h2, h3⟩ := G
  have := word_lt wd ht x y hx hy
  have := small_mul wd ht hw hh
  refine (bmSet w g b wd ht (rsz wd : Nat) x y ((y * rsz wd : Nat) : Int) xs (rsz wd * ht) h1 h2 h3.len (by omega) (by rw [Int.natCast_mul]) (by omega) (by omega) (by omega) (by omega)).mono ?_
  rintro e w' ⟨rfl, k1, k2⟩
  exact ⟨rfl, ⟨_, k2.blk h1 hne, k1, h3.or x y hx hy⟩, k2⟩
theorem gridFlip (w : World) (g b wd ht : Nat) (f : Nat → Nat → Bool) (x y : Nat) (G : Grid w g b wd ht f) (hx : x < wd) (hy : y < ht) (hw : wd ≤ 1000) (hh : ht ≤ 1000) :
    Calls Tryz.prog 140 #[.pointer (some ⟨g, 0, none⟩), .int .i64 (x : Int), .int .i64 (y : Int)] w fun e w' => e = .returned (.tuple #[]) ∧ Grid w' g b wd ht (fun a c => if a = x ∧ c = y then !f a c else f a c) ∧ Turn w w' b := by
  have hne := G.ne
  obtain ⟨xs, h1, h2, h3⟩ := G
  have := word_lt wd ht x y hx hy
  have := small_mul wd ht hw hh
  refine (bmFlip w g b wd ht (rsz wd : Nat) x y ((y * rsz wd : Nat) : Int) xs (rsz wd * ht) h1 h2 h3.len (by omega) (by rw [Int.natCast_mul]) (by omega) (by omega) (by omega) (by omega)).mono ?_
  rintro e w' ⟨rfl, k1, k2⟩
  exact ⟨rfl, ⟨_, k2.blk h1 hne, k1, h3.xor x y hx hy⟩, k2⟩
theorem gridGet (w : World) (g b wd ht : Nat) (f : Nat → Nat → Bool) (x y : Nat) (G : Grid w g b wd ht f) (hx : x < wd) (hy : y < ht) (hw : wd ≤ 1000) (hh : ht ≤ 1000) :
    Calls Tryz.prog 94 #[.pointer (some ⟨g, 0, none⟩), .int .i64 (x : Int), .int .i64 (y : Int)] w fun e w' => e = .returned (.bool (f x y)) ∧ w = w' := by
  obtain ⟨xs, h1, h2, h3⟩ := G
  have := word_lt wd ht x y hx hy
  have := small_mul wd ht hw hh
  refine (bmGet w g b wd ht (rsz wd : Nat) x y ((y * rsz wd : Nat) : Int) xs (rsz wd * ht) h1 h2 h3.len (by omega) (by rw [Int.natCast_mul]) (by omega) (by omega) (by omega) (by omega) (by omega) (by omega) (by omega)).mono ?_
  rintro e w' ⟨rfl, k⟩
  exact ⟨by rw [h3.get x y hx hy], k⟩
theorem gridNew (w : World) (wd ht : Nat) (h1 : 1 ≤ wd) (h2 : 1 ≤ ht) (hw : wd ≤ 1000) (hh : ht ≤ 1000) :
    Calls Tryz.prog 147 #[.int .i64 (wd : Int), .int .i64 (ht : Int)] w fun e w' => e = .returned (.tuple #[.pointer (some ⟨w.heap.size + 1, 0, none⟩), .nilIface]) ∧ Grid w' (w.heap.size + 1) w.heap.size wd ht (fun _ _ => false) ∧ Below w.heap.size w w' := by
  have := small_mul wd ht hw hh
  refine (newBM w wd ht ((rsz wd : Nat) : Int) (rsz wd * ht) (by omega) (by omega) (by omega) (rsz_int wd) (by rw [Int.natCast_mul]) (by omega)).mono ?_
  rintro e w' ⟨rfl, rfl⟩
  refine ⟨rfl, ⟨_, ?_, ?_, GW.zero wd ht⟩, (Below.refl _ _).alloc (Nat.le_refl _) _ |> fun h => h.alloc h.size _⟩
  · have := Blk.new (w.alloc (.cells (nums .u32 (List.replicate (rsz wd * ht) 0)).toArray 214)) 201 #[.int .i64 wd, .int .i64 ht, .int .i64 (rsz wd : Nat), .slice (some ⟨w.heap.size, 0, none⟩) (rsz wd * ht) (rsz wd * ht)]
    simpa using this
  · exact (Blk.new w _ _).alloc _
theorem gridRegion (w : World) (g b wd ht left top n m : Nat) (f : Nat → Nat → Bool) (G : Grid w g b wd ht f) (h2 : 1 ≤ n) (h3 : 1 ≤ m) (h4 : left + n ≤ wd) (h5 : top + m ≤ ht) (hw : wd ≤ 1000) (hh : ht ≤ 1000) :
    Calls Tryz.prog 142 #[.pointer (some ⟨g, 0, none⟩), .int .i64 (left : Int), .int .i64 (top : Int), .int .i64 (n : Int), .int .i64 (m : Int)] w fun e w' => e = .returned .nilIface ∧
      Grid w' g b wd ht (fun a c => inReg left top n m a c || f a c) ∧ Turn w w' b := by
  have hne := G.ne
  obtain ⟨xs, k1, k2, k3⟩ := G
  have := small_mul wd ht hw hh
  refine (setRegion w g b wd ht (rsz wd : Nat) left top n m xs (rsz wd * ht) k1 k2 k3.len (by omega) (rsz_int wd) (by rw [Int.natCast_mul]) (by omega) (by omega) (by omega) (by omega) (by omega) (by omega) (by omega) (by omega)).mono ?_
  rintro e w' ⟨rfl, l1, l2⟩
  refine ⟨rfl, ⟨_, l2.blk k1 hne, l1, ?_⟩, l2⟩
  rw [Int.toNat_natCast, Int.toNat_natCast]
  exact GW.region left n top h4 m h5 k3

/-! ### Rows of modules, and the matrix that is made of them -/
/-- Rows of modules that are read. -/
abbrev BRows (w : World) (A : Option Addr) (rows : List (List Bool)) : Prop := Kd.C (Kd.slice 4 Kd.bool) w A rows.length rows
def cellOf (rows : List (List Bool)) (x y : Nat) : Bool := (rows.getD y []).getD x false
theorem BRows.at_ {w : World} {A : Option Addr} {rows : List (List Bool)} (h : BRows w A rows) (y : Nat) (hy : y < rows.length) :
    ∃ ad Ay cy, A = some ad ∧ w.cell? (ad.add y) = some (.slice Ay (rows.getD y []).length cy) ∧ (rows.getD y []).length ≤ cy ∧ Kd.C Kd.bool w Ay (rows.getD y []).length (rows.getD y []) := by
  obtain ⟨ad, c, hA, hl, ⟨Ay, cy, hc, hle, hC⟩, hg⟩ := Kd.C_get h [] (y : Int) (by omega) (by omega)
  rw [Int.toNat_natCast] at hc hle hC hg
  refine ⟨ad, Ay, cy, hA, ?_, hle, hC⟩
  have := hg 0 (.slice Ay (rows.getD y []).length cy) (by rw [hc]; rfl)
  rw [show y * (Kd.slice 4 Kd.bool).sz + 0 = y by show y * 1 + 0 = y; omega] at this
  exact this
theorem bools_at {w : World} {A : Option Addr} {xs : List Bool} (h : Kd.C Kd.bool w A xs.length xs) (x : Nat) (hx : x < xs.length) : ∃ ax, A = some ax ∧ w.cell? (ax.add x) = some (.bool (xs.getD x false)) := by
  obtain ⟨ad, c, hA, hl, hc, hg⟩ := Kd.C_get h false (x : Int) (by omega) (by omega)
  rw [Int.toNat_natCast] at hc hg
  refine ⟨ad, hA, ?_⟩
  have := hg 0 (.bool (xs.getD x false)) (by rw [show c = [.bool (xs.getD x false)] from hc]; rfl)
  rw [show x * Kd.bool.sz + 0 = x by show x * 1 + 0 = x; omega] at this
  exact this

set_option maxHeartbeats 1000000 in
theorem parseMap (w : World) (A : Option Addr) (c : Nat) (rows : List (List Bool)) (wd ht : Nat) (hr : BRows w A rows) (hc : rows.length ≤ c) (hn : rows.length = ht) (h1 : 1 ≤ ht) (h2 : ht ≤ 1000)
    (hw : (rows.getD 0 []).length = wd) (h3 : 1 ≤ wd) (h4 : wd ≤ 1000) (hrow : ∀ y, y < ht → wd ≤ (rows.getD y []).length ∧ (rows.getD y []).length ≤ 1000000) :
    Calls Tryz.prog 125 #[.slice A ht c] w fun e w' => e = .returned (.tuple #[.pointer (some ⟨w.heap.size + 1, 0, none⟩), .nilIface]) ∧ Grid w' (w.heap.size + 1) w.heap.size wd ht (cellOf rows) ∧ Below w.heap.size w w' := by
  subst hn
  obtain ⟨ad, A0, c0, rfl, k0, _, _⟩ := hr.at_ 0 (by omega)
  rw [hw] at k0
  have hc0 : ad.add 0 = ad := by unfold Addr.add; simp
  rw [hc0] at k0
  have HR := Aside0.mk hr
  have HROW := Aside0.mk hrow
  have HW := Aside0.mk hw
  clear hr hrow hw hc0
  obtain ⟨ht, hht⟩ : ∃ ht, rows.length = ht := ⟨_, rfl⟩
  rw [hht] at h1 h2 hc ⊢
  have HT := Aside0.mk hht
  clear hht
  have hgt : decide (0 < (ht : Int)) = true := decide_eq_true (by omega)
  have hgt' : decide (0 < ht) = true := decide_eq_true (by omega)
  go_enter Tryz.func125, Tryz.ntmps125
  go_wp2_with (go_at_call 147; refine (gridNew _ wd ht h3 h1 h4 h2).mono ?_; rintro e w' ⟨rfl, hG, hB⟩)
  have HG := Aside0.mk hG
  have HB := Aside0.mk hB
  clear hG hB k0 hgt hgt'
  go_loopw [8] (fun v wr => ∃ i : Nat, i ≤ ht ∧ v = .int .i64 (i : Int) ∧ Aside0 (Grid wr (w.heap.size + 1) w.heap.size wd ht (fun x y => decide (y < i) && cellOf rows x y)) ∧ Aside0 (Below w.heap.size w wr)) (fun v _ => (ht - intOf v).toNat)
  case atStart => exact ⟨0, Nat.zero_le _, rfl, ⟨HG.out.congr fun x y _ _ => by simp⟩, HB⟩
  case round =>
    obtain ⟨i, hi, rfl, HGr, HBr⟩ := hrel
    by_cases hlt : i < ht
    · obtain ⟨ad', Ay, cy, e1, ki0, hle, hC⟩ := HR.out.at_ i (by have := HT.out; omega)
      obtain rfl : ad = ad' := Option.some.inj e1
      have ki := pw_cell_below HBr.out ki0
      obtain ⟨hl1, hl2⟩ := HROW.out i (by have := HT.out; omega)
      have HC := Aside0.mk hC
      obtain ⟨len, hlen⟩ : ∃ len, (rows.getD i []).length = len := ⟨_, rfl⟩
      rw [hlen] at ki hle hl1 hl2
      have HLEN := Aside0.mk hlen
      clear e1 hC hlen ki0
      go_wp2
      obtain ⟨wo, rfl⟩ : ∃ wo : World, wo = wr := ⟨_, rfl⟩
      clear ki
      go_loopw [10] (fun v wi => ∃ j : Nat, j ≤ wd ∧ v = .int .i64 (j : Int) ∧ Aside0 (Grid wi (w.heap.size + 1) w.heap.size wd ht (fun x y => decide (y < i ∨ y = i ∧ x < j) && cellOf rows x y)) ∧ Aside0 (Turn wo wi w.heap.size) ∧ Aside0 (Below w.heap.size w wi)) (fun v _ => (wd - intOf v).toNat)
      case atStart => exact ⟨0, Nat.zero_le _, rfl, ⟨HGr.out.congr fun x y _ _ => by simp⟩, ⟨Turn.refl _ _⟩, HBr⟩
      case round =>
        obtain ⟨j, hj, rfl, HGi, HTi, HBi⟩ := hrel
        by_cases hlj : j < wd
        · obtain ⟨ax, e2, kj⟩ := bools_at (Kd.C_below HC.out HBi.out) j (by have := HLEN.out; omega)
          subst e2
          have hmul : j ≤ len := by omega
          have hjl : decide (j < len) = true := decide_eq_true (by omega)
          by_cases hbit : cellOf rows j i = true
          · have hv : (rows.getD i []).getD j false = true := hbit
            rw [hv] at kj
            have HV := Aside0.mk hbit
            clear hv hbit
            go_wp2_with (go_at_call 148; refine (gridSet _ _ _ wd ht _ j i HGi.out hlj hlt h4 h2).mono ?_; rintro e w' ⟨rfl, hG2, hT2⟩)
            go_roundw
            case rel => exact ⟨j + 1, by omega, by go_num, ⟨hG2.congr fun x y hx hy => by
              by_cases e : x = j ∧ y = i
              · rw [if_pos e, e.1, e.2, HV.out, decide_eq_true (by omega)]; rfl
              · rw [if_neg e]; congr 1; rw [decide_eq_decide]; omega⟩, ⟨HTi.out.trans hT2⟩, ⟨HBi.out.trans (hT2.below (Nat.le_refl _))⟩⟩
            case measure => simp [intOf]; omega
          · have hbit : cellOf rows j i = false := by simpa using hbit
            have hv : (rows.getD i []).getD j false = false := hbit
            rw [hv] at kj
            have HV := Aside0.mk hbit
            clear hv hbit
            go_wp2
            go_roundw
            case rel => exact ⟨j + 1, by omega, by go_num, ⟨HGi.out.congr fun x y hx hy => by
              by_cases e : x = j ∧ y = i
              · rw [e.1, e.2, HV.out, Bool.and_false, Bool.and_false]
              · congr 1; rw [decide_eq_decide]; omega⟩, HTi, HBi⟩
            case measure => simp [intOf]; omega
        · have : j = wd := by omega
          subst this
          go_wp2
          go_roundw
          case rel => exact ⟨i + 1, by omega, by go_num, ⟨HGi.out.congr fun x y hx hy => by congr 1; rw [decide_eq_decide]; omega⟩, HBi⟩
          case measure => simp [intOf]; omega
    · have : i = ht := by omega
      subst this
      go_wp2
      go_ret2
      exact ⟨rfl, HGr.out.congr fun x y hx hy => by rw [decide_eq_true (by omega), Bool.true_and], HBr.out⟩

/-! ### Versions by number and by bits -/
theorem ints_at {w : World} {k : IntKind} {A : Option Addr} {xs : List Int} {n : Nat} (h : Kd.C (Kd.int k) w A n xs) (x : Nat) (hx : x < n) : ∃ ax, A = some ax ∧ w.cell? (ax.add x) = some (.int k (xs.getD x 0)) := by
  obtain ⟨ad, c, hA, hl, hc, hg⟩ := Kd.C_get h 0 (x : Int) (by omega) (by omega)
  rw [Int.toNat_natCast] at hc hg
  refine ⟨ad, hA, ?_⟩
  have := hg 0 (.int k (xs.getD x 0)) (by rw [show c = [.int k (xs.getD x 0)] from hc]; rfl)
  rw [show x * (Kd.int k).sz + 0 = x by show x * 1 + 0 = x; omega] at this
  exact this
theorem verNum_ok (w : World) (n : Nat) (h : 1 ≤ n ∧ n ≤ 40) :
    Calls Tryz.prog 60 #[.int .i64 (n : Int)] w fun e w' => ∃ p, e = .returned (.tuple #[.pointer (some ⟨p, 0, none⟩), .nilIface]) ∧ w.heap.size ≤ p ∧ VerAt w' p (n : Int) (verRow n) ∧ Below w.heap.size w w' := by
  have k := versionOf_any w n h
  obtain ⟨h1, h2⟩ := h
  go_enter Tryz.func60, Tryz.ntmps60
  go_wp2_with (go_at_call 104; refine k.mono ?_; rintro e w' ⟨p, rfl, hp, hv, hb⟩)
  have HV := Aside0.mk hv
  clear hv
  go_ret2
  exact ⟨p, rfl, hp, HV.out, hb⟩
def verTabI : List Int := verTabN.map fun (n : Nat) => (n : Int)
theorem verTabI_eq : F.decoder_VERSION_DECODE_INFO.f = some verTabI := by decide +kernel
theorem vdi_call (w : World) : Calls Tryz.prog 127 #[] w fun e w' => ∃ ad c, e = .returned (.slice (some ad) 34 c) ∧ 34 ≤ c ∧ (∀ i, i < 34 → w'.cell? (ad.add i) = some (.int .i64 ((verTabN.getD i 0 : Nat) : Int))) ∧ ad.block < w'.heap.size ∧ Below w.heap.size w w' := by
  refine (F.decoder_VERSION_DECODE_INFO.calls verTabI w verTabI_eq).mono ?_
  rintro e w' ⟨v, rfl, hR, hB⟩
  obtain ⟨A, c, rfl, hc, hC⟩ := Kd.R_reads hR
  have hC : Kd.C (Kd.int .i64) w' A 34 verTabI := hC
  obtain ⟨ax, rfl, h0⟩ := ints_at hC 0 (by omega)
  refine ⟨ax, c, rfl, hc, ?_, ?_, hB⟩
  · intro i hi
    obtain ⟨ay, e, h⟩ := ints_at hC i hi
    obtain rfl : ax = ay := Option.some.inj e
    have e2 : verTabI.getD i 0 = ((verTabN.getD i 0 : Nat) : Int) := by
      unfold verTabI
      rw [List.getD_eq_getElem?_getD, List.getD_eq_getElem?_getD, List.getElem?_map]
      cases verTabN[i]? <;> rfl
    rw [e2] at h
    exact h
  · have := World.block_lt_of_cell? w' _ h0
    have e0 : ax.add 0 = ax := by unfold Addr.add; simp
    rw [e0] at this
    exact this
theorem verTab_lim : ∀ i : Fin 34, verTabN.getD i.val 0 < 262144 := by decide
def SomeVer (w : World) (n : Nat) (e : Ending) (w' : World) : Prop := ∃ p, e = .returned (.tuple #[.pointer (some ⟨p, 0, none⟩), .nilIface]) ∧ w.heap.size ≤ p ∧ VerAt w' p (n : Int) (verRow n) ∧ Below w.heap.size w w'
def bvOf (best idx bv : Nat) : Prop := best ≤ 3 → bv = idx + 7
def goesOn (a k i best idx : Nat) : Prop := verGo a (verTabN.drop i) i (best, idx) = some k
theorem goesOn_step {a k i best idx : Nat} (hi : i < 34) (h : goesOn a k i best idx) : (verTabN.getD i 0 = a ∧ i = k) ∨ (verTabN.getD i 0 ≠ a ∧ goesOn a k (i + 1) (nearStep a (verTabN.getD i 0) i (best, idx)).1 (nearStep a (verTabN.getD i 0) i (best, idx)).2) := by
  have hl : i < verTabN.length := hi
  have hd : verTabN.drop i = verTabN.getD i 0 :: verTabN.drop (i + 1) := by
    rw [List.drop_eq_getElem_cons hl, List.getD_eq_getElem?_getD, List.getElem?_eq_getElem hl]
    rfl
  unfold goesOn at h ⊢
  rw [hd, verGo] at h
  split at h
  · exact .inl ⟨‹_›, Option.some.inj h⟩
  · exact .inr ⟨‹_›, h⟩
set_option maxHeartbeats 1000000 in
theorem decVer (w : World) (a k : Nat) (hk : k < 34) (ha : a < 262144) (hd : hd a (verTabN.getD k 0) ≤ 3) :
    Calls Tryz.prog 85 #[.int .i64 (a : Int)] w (SomeVer w (k + 7)) := by
  have H0 := Aside0.mk (show goesOn a k 0 2147483647 0 from ver_found k a hk hd)
  clear hd
  go_enter Tryz.func85, Tryz.ntmps85
  go_wp2_with (go_at_call 127; refine (vdi_call _).mono ?_; rintro e w' ⟨ad, c, rfl, hc, hcell, hlt, hb⟩)
  have HC := Aside0.mk hcell
  have HB := Aside0.mk hb
  obtain ⟨w1, rfl⟩ : ∃ w1 : World, w1 = w' := ⟨_, rfl⟩
  clear hcell hb
  go_loopw [4, 5, 11] (fun vb vv vi wr => ∃ i best idx bv : Nat, i ≤ 34 ∧ vb = .int .i64 (best : Int) ∧ vv = .int .i64 (bv : Int) ∧ vi = .int .i64 (i : Int) ∧ best ≤ 2147483647 ∧ Aside0 (bvOf best idx bv) ∧ Aside0 (goesOn a k i best idx) ∧ bv ≤ 100 ∧ Aside0 (Below w1.heap.size w1 wr)) (fun _ _ vi _ => (34 - intOf vi).toNat)
  case atStart => exact ⟨0, 2147483647, 0, 0, by omega, rfl, rfl, rfl, by omega, ⟨fun h => by omega⟩, H0, by omega, ⟨Below.refl _ _⟩⟩
  case round =>
    obtain ⟨i, best, idx, bv, hi, rfl, rfl, rfl, hbest, HBV, HG, hbv, HBr⟩ := hrel
    by_cases hlt34 : i < 34
    · have c0 : wr.cell? (ad.add i) = some (.int .i64 ((verTabN.getD i 0 : Nat) : Int)) := by
        have := HC.out i hlt34
        exact pw_cell_below HBr.out this
      obtain ⟨t, ht⟩ : ∃ t, verTabN.getD i 0 = t := ⟨_, rfl⟩
      have hlim : t < 262144 := by rw [← ht]; exact verTab_lim ⟨i, hlt34⟩
      have hst := goesOn_step hlt34 HG.out
      rw [ht] at c0 hst
      clear ht
      rcases hst with ⟨e1, e2⟩ | ⟨e1, e2⟩
      · subst e1
        have HE := Aside0.mk e2
        clear e2
        go_wp2_with (go_at_call 60; refine (verNum_ok _ (i + 7) (by omega)).mono ?_; rintro e w' ⟨p, rfl, hp, hv, hb⟩)
        have HV := Aside0.mk hv
        clear hv
        go_ret2
        have hik := HE.out
        subst hik
        refine ⟨p, rfl, ?_, HV.out, ?_⟩
        · have := HB.out.size; have := HBr.out.size; omega
        · exact HB.out.trans ((HBr.out.mono HB.out.size).trans (hb.mono (Nat.le_trans HB.out.size HBr.out.size)))
      · have ht2 : ((t : Int) == (a : Int)) = false := by simpa using (fun h : (t : Int) = (a : Int) => e1 (by omega))
        have HE := Aside0.mk e2
        have hdl : hd a t ≤ 64 := pcN_le 64 _
        obtain ⟨q, hq⟩ : ∃ q, hd a t = q := ⟨_, rfl⟩
        have hcall := F.decoder_FormatInformation_NumBitsDiffering.calls a t _ wr (bitsDiff a t (by omega) (by omega))
        rw [hq] at hcall hdl
        have HQ := Aside0.mk hq
        clear e1 e2 hq
        by_cases hless : q < best
        · go_wp2_with (go_at_call 128; refine hcall.mono ?_; rintro e w' ⟨rfl, hdr⟩; obtain ⟨nd, rfl⟩ := hdr.out)
          go_roundw
          case rel => exact ⟨i + 1, q, i, i + 7, by omega, rfl, by go_num, by go_num, by omega, ⟨fun _ => rfl⟩, ⟨by have := HE.out; unfold nearStep at this; rw [HQ.out, if_pos hless] at this; exact this⟩, by omega, ⟨pw_below_drewN HBr.out _⟩⟩
          case measure => simp [intOf]; omega
        · go_wp2_with (go_at_call 128; refine hcall.mono ?_; rintro e w' ⟨rfl, hdr⟩; obtain ⟨nd, rfl⟩ := hdr.out)
          go_roundw
          case rel => exact ⟨i + 1, best, idx, bv, by omega, rfl, rfl, by go_num, by omega, HBV, ⟨by have := HE.out; unfold nearStep at this; rw [HQ.out, if_neg hless] at this; exact this⟩, hbv, ⟨pw_below_drewN HBr.out _⟩⟩
          case measure => simp [intOf]; omega
    · have : i = 34 := by omega
      subst this
      have hfin := HG.out
      unfold goesOn at hfin
      rw [show verTabN.drop 34 = [] from rfl, verGo] at hfin
      split at hfin
      · rename_i hb3
        have hb3 : best ≤ 3 := hb3
        have hbvk : bv = k + 7 := by
          have := HBV.out hb3
          have e : idx = k := Option.some.inj hfin
          omega
        subst hbvk
        clear hfin
        go_wp2_with (go_at_call 60; refine (verNum_ok _ (k + 7) (by omega)).mono ?_; rintro e w' ⟨p, rfl, hp, hv, hb⟩)
        have HV := Aside0.mk hv
        clear hv
        go_ret2
        refine ⟨p, rfl, ?_, HV.out, ?_⟩
        · have := HB.out.size; have := HBr.out.size; omega
        · exact HB.out.trans ((HBr.out.mono HB.out.size).trans (hb.mono (Nat.le_trans HB.out.size HBr.out.size)))
      · cases hfin

/-! ### The parser of a matrix -/
theorem gridHeight (w : World) (g b wd ht : Nat) (f : Nat → Nat → Bool) (G : Grid w g b wd ht f) :
    Calls Tryz.prog 83 #[.pointer (some ⟨g, 0, none⟩)] w fun e w' => e = .returned (.int .i64 (ht : Int)) ∧ w = w' := by
  obtain ⟨xs, h1, h2, h3⟩ := G
  have c1 : w.cell? ⟨g, 1, none⟩ = some (.int .i64 (ht : Int)) := h1.cell 1
  clear h1 h2 h3
  go_enter Tryz.func83, Tryz.ntmps83
  go_wp2
  go_ret
  exact ⟨rfl, rfl⟩
theorem i64_and_nat (a b : Nat) (ha : a < 4294967296) (hb : b < 4294967296) : Go.bits .and .i64 (a : Int) (b : Int) = ((a &&& b : Nat) : Int) :=
  (bits_nat .i64 32 (by decide) (fun n h0 h1 => by rw [IntKind.wrap_i64]; omega) a b ha hb).1
theorem i64_or_nat (a b : Nat) (ha : a < 4294967296) (hb : b < 4294967296) : Go.bits .or .i64 (a : Int) (b : Int) = ((a ||| b : Nat) : Int) :=
  (bits_nat .i64 32 (by decide) (fun n h0 h1 => by rw [IntKind.wrap_i64]; omega) a b ha hb).2
theorem and3 (n : Nat) (h : n ≤ 1000) : Go.bits .and .i64 (n : Int) 3 = ((n % 4 : Nat) : Int) := by
  have := i64_and_nat n 3 (by omega) (by omega)
  rw [show (3 : Int) = ((3 : Nat) : Int) from rfl, this, show n &&& 3 = n % 4 from Nat.and_two_pow_sub_one_eq_mod (n := 2) n]
/-- A parser at p of the matrix at g: no version and no format yet. -/
def parserCells (g : Nat) : Array Value := #[.pointer (some ⟨g, 0, none⟩), .pointer none, .pointer none, .bool false]
theorem newParser_ok (w : World) (g b wd ht : Nat) (f : Nat → Nat → Bool) (G : Grid w g b wd ht f) (h1 : 21 ≤ ht) (h2 : ht ≤ 1000) (h3 : ht % 4 = 1) :
    Calls Tryz.prog 82 #[.pointer (some ⟨g, 0, none⟩)] w fun e w' => e = .returned (.tuple #[.pointer (some ⟨w.heap.size, 0, none⟩), .nilIface]) ∧ w' = w.alloc (.cells (parserCells g) 144) := by
  have k := gridHeight w g b wd ht f G
  have ha : (Go.bits .and .i64 (ht : Int) 3 == 1) = true := by rw [and3 ht h2, h3]; rfl
  have hb : (Go.bits .and .i64 (ht : Int) 3 != 1) = false := by rw [and3 ht h2, h3]; rfl
  clear h3 G
  go_enter Tryz.func82, Tryz.ntmps82
  go_wp2_with (go_at_call 83; refine k.mono ?_; rintro e w' ⟨rfl, rfl⟩)
  go_ret2
  exact ⟨rfl, rfl⟩
def BadSize (ht : Nat) : Prop := ht < 21 ∨ ht % 4 ≠ 1
theorem newParser_bad (w : World) (g b wd ht : Nat) (f : Nat → Nat → Bool) (G : Grid w g b wd ht f) (h2 : ht ≤ 1000) (h : BadSize ht) :
    Calls Tryz.prog 82 #[.pointer (some ⟨g, 0, none⟩)] w fun e w' => (∃ x, e = .returned (.tuple #[.pointer none, .iface 208 x])) ∧ Below w.heap.size w w' := by
  have k := gridHeight w g b wd ht f G
  by_cases h1 : ht < 21
  · clear h G
    go_enter Tryz.func82, Tryz.ntmps82
    go_wp2_with (first | (go_at_call 83; refine k.mono ?_; rintro e w' ⟨rfl, rfl⟩) | (go_at_call 89; refine (newFmt _ _).mono ?_; rintro e w' ⟨⟨x, rfl⟩, hb⟩))
    go_ret2
    refine ⟨⟨x, rfl⟩, ?_⟩
    have := hb.trans (Below.refl _ _)
    exact (((Below.refl _ _).alloc (Nat.le_refl _) _).trans (hb.mono (by simp)))
  · have h3 : ht % 4 ≠ 1 := by rcases h with h | h; exact absurd h h1; exact h
    have hz : Go.bits .and .i64 (ht : Int) 3 ≠ 1 := by rw [and3 ht h2]; omega
    have ha : (Go.bits .and .i64 (ht : Int) 3 == 1) = false := by simpa using hz
    have hb : (Go.bits .and .i64 (ht : Int) 3 != 1) = true := by simpa using hz
    clear h3 hz h G
    go_enter Tryz.func82, Tryz.ntmps82
    go_wp2_with (first | (go_at_call 83; refine k.mono ?_; rintro e w' ⟨rfl, rfl⟩) | (go_at_call 89; refine (newFmt _ _).mono ?_; rintro e w' ⟨⟨x, rfl⟩, hb⟩))
    go_ret2
    refine ⟨⟨x, rfl⟩, ?_⟩
    exact (((Below.refl _ _).alloc (Nat.le_refl _) _).trans (hb.mono (by simp)))
theorem ret_i {k : IntKind} {a b : Int} (h : a = b) : Ending.returned (.int k a) = .returned (.int k b) := by rw [h]
theorem or_one (v : Nat) : 2 * v ||| 1 = 2 * v + 1 := by
  apply Nat.eq_of_testBit_eq
  intro i
  rw [Nat.testBit_or]
  cases i with
  | zero => simp
  | succ i => rw [Nat.testBit_succ, Nat.testBit_succ, Nat.testBit_succ, show 2 * v / 2 = v by omega, show (2 * v + 1) / 2 = v by omega]; simp
theorem or_one_i (v : Nat) (h : v < 1000000) : Go.bits .or .i64 ((v : Int) * 2) 1 = ((2 * v + 1 : Nat) : Int) := by
  have := i64_or_nat (2 * v) 1 (by omega) (by omega)
  rw [or_one] at this
  rw [← this]
  congr 1
  omega
theorem copyBit (w : World) (p g b wd ht : Nat) (f : Nat → Nat → Bool) (x1 x2 : Value) (i j v : Nat) (hp : Blk w p 144 #[.pointer (some ⟨g, 0, none⟩), x1, x2, .bool false]) (G : Grid w g b wd ht f)
    (hi : i < wd) (hj : j < ht) (hw : wd ≤ 1000) (hh : ht ≤ 1000) (hv : v < 1000000) :
    Calls Tryz.prog 84 #[.pointer (some ⟨p, 0, none⟩), .int .i64 (i : Int), .int .i64 (j : Int), .int .i64 (v : Int)] w fun e w' => e = .returned (.int .i64 ((2 * v + (f i j).toNat : Nat) : Int)) ∧ w = w' := by
  have k := gridGet w g b wd ht f i j G hi hj hw hh
  have c0 : w.cell? ⟨p, 0, none⟩ = some (.pointer (some ⟨g, 0, none⟩)) := hp.cell 0
  have c3 : w.cell? ⟨p, 3, none⟩ = some (.bool false) := hp.cell 3
  have ho := or_one_i v hv
  clear hp G
  cases hb : f i j with
  | true =>
    rw [hb] at k
    clear hb
    go_enter Tryz.func84, Tryz.ntmps84
    go_wp2_with (go_at_call 94; refine k.mono ?_; rintro e w' ⟨rfl, rfl⟩)
    go_ret
    exact ⟨rfl, rfl⟩
  | false =>
    rw [hb] at k
    clear hb
    go_enter Tryz.func84, Tryz.ntmps84
    go_wp2_with (go_at_call 94; refine k.mono ?_; rintro e w' ⟨rfl, rfl⟩)
    go_ret
    exact ⟨ret_i (show (v : Int) * 2 = ((2 * v + false.toNat : Nat) : Int) by simp; omega), rfl⟩

/-! ### The parser reads its version -/
/-- Of what was there, block g alone may be another one. -/
structure Upd (w w' : World) (g : Nat) : Prop where
  os : w'.os = w.os
  tape : w'.tape = w.tape
  output : w'.output = w.output
  size : w.heap.size ≤ w'.heap.size
  block : ∀ k, k < w.heap.size → k ≠ g → w'.heap[k]? = w.heap[k]?
theorem Upd.refl (w : World) (g : Nat) : Upd w w g := ⟨rfl, rfl, rfl, Nat.le_refl _, fun _ _ _ => rfl⟩
theorem Upd.trans {a b c : World} {g : Nat} (h : Upd a b g) (k : Upd b c g) : Upd a c g :=
  ⟨k.os.trans h.os, k.tape.trans h.tape, k.output.trans h.output, Nat.le_trans h.size k.size, fun i hi hn => (k.block i (Nat.lt_of_lt_of_le hi h.size) hn).trans (h.block i hi hn)⟩
theorem Upd.of_below {w w' : World} (h : Below w.heap.size w w') (g : Nat) : Upd w w' g := ⟨h.os, h.tape, h.output, h.size, fun k hk _ => h.block k hk⟩
theorem Upd.of_turn {w w' : World} {g : Nat} (h : Turn w w' g) : Upd w w' g := ⟨h.os, h.tape, h.output, by rw [h.size]; exact Nat.le_refl _, fun k _ hn => h.block k hn⟩
theorem Upd.set (w : World) (g i : Nat) (u : Value) : Upd w (w.setCell ⟨g, i, none⟩ u) g := Upd.of_turn (Turn.set w g i u)
theorem Upd.blk {w w' : World} {g b : Nat} {t : TypeId} {cs : Array Value} (h : Upd w w' g) (hb : Blk w b t cs) (hne : b ≠ g) : Blk w' b t cs := (h.block b hb.lt hne).trans hb
theorem Upd.grid {w w' : World} {p g b wd ht : Nat} {f : Nat → Nat → Bool} (h : Upd w w' p) (G : Grid w g b wd ht f) (h1 : g ≠ p) (h2 : b ≠ p) : Grid w' g b wd ht f :=
  G.keep (h.block g G.lt.1 h1) (h.block b G.lt.2 h2)
/-- Below a mark that lies above the block or not: if the block is new, all that was there stays. -/
theorem Upd.below {w0 w w' : World} {g B : Nat} (h : Upd w w' g) (hb : Below B w0 w) (hg : B ≤ g) (hB : B ≤ w.heap.size) : Below B w0 w' :=
  ⟨h.os.trans hb.os, h.tape.trans hb.tape, h.output.trans hb.output, Nat.le_trans hb.size h.size, fun k hk => (h.block k (by omega) (by omega)).trans (hb.block k hk)⟩
theorem VerAt.upd {w w' : World} {p pv : Nat} {n : Int} {v : VerRow} {cs : Array Value} (h : VerAt w pv n v) (hu : Upd w w' p) (hp : Blk w p 144 cs) : VerAt w' pv n v := by
  obtain ⟨gc, ge, g, h1, h2, h3, h4⟩ := h
  exact ⟨gc, ge, g, hu.blk h1 (blk_ne h1 hp (by decide)), hu.blk h2 (blk_ne h2 hp (by decide)), hu.blk h3 (blk_ne h3 hp (by decide)), fun l hl => hu.blk (h4 l hl) (blk_ne (h4 l hl) hp (by decide))⟩
/-- A parser at p over the matrix at g of version v; fm: what it knows of the format. -/
def Parser (w : World) (p g v : Nat) (fm : Value) : Prop := ∃ x1, Blk w p 144 #[.pointer (some ⟨g, 0, none⟩), x1, fm, .bool false] ∧ (x1 = .pointer none ∨ ∃ pv, x1 = .pointer (some ⟨pv, 0, none⟩) ∧ VerAt w pv (v : Int) (verRow v))
/-- The version's bits as they are read: the first k of them. -/
def vacc (f : Nat → Nat → Bool) (n : Nat) : Nat → Nat
  | 0 => 0
  | k + 1 => 2 * vacc f n k + (f (n - 9 - k % 3) (5 - k / 3)).toNat
theorem vacc_lt (f : Nat → Nat → Bool) (n : Nat) : ∀ k, vacc f n k < 2 ^ k := by
  intro k
  induction k with
  | zero => exact Nat.one_pos
  | succ k ih =>
    rw [vacc, Nat.pow_succ]
    have : (f (n - 9 - k % 3) (5 - k / 3)).toNat ≤ 1 := Bool.toNat_le _
    omega
theorem vacc_small (f : Nat → Nat → Bool) (n k : Nat) (h : k ≤ 18) : vacc f n k < 262144 := Nat.lt_of_lt_of_le (vacc_lt f n k) (Nat.pow_le_pow_right (n := 2) (by omega) h)
def VerRead (w : World) (p g v : Nat) (fm : Value) (e : Ending) (w' : World) : Prop := ∃ pv, e = .returned (.tuple #[.pointer (some ⟨pv, 0, none⟩), .nilIface]) ∧ VerAt w' pv (v : Int) (verRow v) ∧ Parser w' p g v fm ∧ Upd w w' p
theorem verDim (w : World) (p n : Nat) (v : VerRow) (h : VerAt w p (n : Int) v) (hn : 1 ≤ n ∧ n ≤ 40) : Calls Tryz.prog 86 #[.pointer (some ⟨p, 0, none⟩)] w fun e w' => e = .returned (.int .i64 ((17 + 4 * n : Nat) : Int)) ∧ w = w' := by
  obtain ⟨gc, ge, g, h1, _⟩ := h
  refine (ver_dim w p (n : Int) (by omega) (h1.cell 0)).mono ?_
  rintro e w' ⟨rfl, h⟩
  exact ⟨ret_i (by omega), h⟩
theorem readVersion_small (w : World) (p g b v : Nat) (fm : Value) (f : Nat → Nat → Bool) (hP : Blk w p 144 #[.pointer (some ⟨g, 0, none⟩), .pointer none, fm, .bool false]) (G : Grid w g b (17 + 4 * v) (17 + 4 * v) f) (hv : 1 ≤ v ∧ v ≤ 6) :
    Calls Tryz.prog 39 #[.pointer (some ⟨p, 0, none⟩)] w (VerRead w p g v fm) := by
  have k := gridHeight w g b _ _ f G
  have c0 : w.cell? ⟨p, 0, none⟩ = some (.pointer (some ⟨g, 0, none⟩)) := hP.cell 0
  have c1 : w.cell? ⟨p, 1, none⟩ = some (.pointer none) := hP.cell 1
  obtain ⟨hv1, hv2⟩ := hv
  obtain ⟨n, hn⟩ : ∃ n, 17 + 4 * v = n := ⟨_, rfl⟩
  rw [hn] at k
  have hq : ((n : Int) - 17) / 4 = (v : Int) := by omega
  have hb1 : 17 ≤ n := by omega
  have hb2 : n ≤ 41 := by omega
  have HP := Aside0.mk hP
  have HQ := Aside0.mk hq
  clear hP hn G
  go_enter Tryz.func39, Tryz.ntmps39
  go_wp2_with (first | (go_at_call 83; refine k.mono ?_; rintro e w' ⟨rfl, rfl⟩) | (go_at_call 60; refine (verNum_ok _ v (by omega)).mono ?_; rintro e w' ⟨pv, rfl, hp, hv, hb⟩))
  have HV := Aside0.mk hv
  clear hv
  go_ret2
  exact ⟨pv, rfl, HV.out, ⟨_, HP.out.below hb HP.out.lt, .inl rfl⟩, Upd.of_below hb p⟩
theorem readVersion_again (w : World) (p g v pv : Nat) (fm : Value) (hP : Blk w p 144 #[.pointer (some ⟨g, 0, none⟩), .pointer (some ⟨pv, 0, none⟩), fm, .bool false]) (hV : VerAt w pv (v : Int) (verRow v)) :
    Calls Tryz.prog 39 #[.pointer (some ⟨p, 0, none⟩)] w (VerRead w p g v fm) := by
  have c1 : w.cell? ⟨p, 1, none⟩ = some (.pointer (some ⟨pv, 0, none⟩)) := hP.cell 1
  have HP := Aside0.mk hP
  have HV := Aside0.mk hV
  clear hP hV
  go_enter Tryz.func39, Tryz.ntmps39
  go_wp2
  go_ret2
  exact ⟨pv, rfl, HV.out, ⟨_, HP.out, .inr ⟨pv, rfl, HV.out⟩⟩, Upd.refl _ _⟩
set_option maxHeartbeats 2000000 in
theorem readVersion_great (w : World) (p g b v : Nat) (fm : Value) (f : Nat → Nat → Bool) (hP : Blk w p 144 #[.pointer (some ⟨g, 0, none⟩), .pointer none, fm, .bool false]) (G : Grid w g b (17 + 4 * v) (17 + 4 * v) f) (hv : 7 ≤ v ∧ v ≤ 40)
    (hd : hd (vacc f (17 + 4 * v) 18) (verTabN.getD (v - 7) 0) ≤ 3) :
    Calls Tryz.prog 39 #[.pointer (some ⟨p, 0, none⟩)] w (VerRead w p g v fm) := by
  have k := gridHeight w g b _ _ f G
  have c0 : w.cell? ⟨p, 0, none⟩ = some (.pointer (some ⟨g, 0, none⟩)) := hP.cell 0
  have c1 : w.cell? ⟨p, 1, none⟩ = some (.pointer none) := hP.cell 1
  obtain ⟨hv1, hv2⟩ := hv
  obtain ⟨n, hn⟩ : ∃ n, 17 + 4 * v = n := ⟨_, rfl⟩
  rw [hn] at k G hd
  have hq : 6 < ((n : Int) - 17) / 4 := by omega
  have hb1 : 45 ≤ n := by omega
  have hb2 : n ≤ 177 := by omega
  have HP := Aside0.mk hP
  have HG := Aside0.mk G
  have HN := Aside0.mk hn
  have HD := Aside0.mk hd
  clear hP hn G hd
  go_enter Tryz.func39, Tryz.ntmps39
  go_wp2_with (first | (go_at_call 83; refine k.mono ?_; rintro e w' ⟨rfl, rfl⟩))
  go_loop [6, 8] (fun vb vj => ∃ m x : Nat, m ≤ 6 ∧ vj = .int .i64 (5 - (m : Int)) ∧ vb = .int .i64 (x : Int) ∧ Aside0 (x = vacc f n (3 * m))) (fun _ vj => (intOf vj + 1).toNat)
  case atStart => exact ⟨0, 0, by omega, rfl, rfl, ⟨rfl⟩⟩
  case round =>
    obtain ⟨m, x, hm, rfl, rfl, HX⟩ := hrel
    by_cases hlt : m < 6
    · go_wp2
      go_loop [6, 9] (fun vb vi => ∃ t y : Nat, t ≤ 3 ∧ vi = .int .i64 ((n : Int) - 9 - (t : Int)) ∧ vb = .int .i64 (y : Int) ∧ Aside0 (y = vacc f n (3 * m + t))) (fun _ vi => (intOf vi - (n : Int) + 12).toNat)
      case atStart => exact ⟨0, x, by omega, by go_num, rfl, HX⟩
      case round =>
        obtain ⟨t, y, ht, rfl, rfl, HY⟩ := hrel
        by_cases hlt3 : t < 3
        · have hcb := copyBit w p g b n n f (.pointer none) fm (n - 9 - t) (5 - m) y HP.out HG.out (by omega) (by omega) (by omega) (by omega) (by have := vacc_small f n (3 * m + t) (by omega); have := HY.out; omega)
          rw [show ((n - 9 - t : Nat) : Int) = (n : Int) - 9 - (t : Int) by omega, show ((5 - m : Nat) : Int) = 5 - (m : Int) by omega] at hcb
          have hy : 2 * y + (f (n - 9 - t) (5 - m)).toNat = vacc f n (3 * m + (t + 1)) := by
            rw [show 3 * m + (t + 1) = 3 * m + t + 1 by omega, vacc, ← HY.out, show (3 * m + t) % 3 = t by omega, show (3 * m + t) / 3 = m by omega]
          obtain ⟨z, hz⟩ : ∃ z, 2 * y + (f (n - 9 - t) (5 - m)).toNat = z := ⟨_, rfl⟩
          rw [hz] at hcb hy
          have HZ := Aside0.mk hy
          clear hz hy
          go_wp2_with (go_at_call 84; refine hcb.mono ?_; rintro e w' ⟨rfl, rfl⟩)
          go_round
          case rel => exact ⟨t + 1, z, by omega, by go_num, rfl, HZ⟩
          case measure => simp [intOf]; omega
        · have : t = 3 := by omega
          subst this
          go_wp2
          go_round
          case rel => exact ⟨m + 1, y, by omega, by go_num, rfl, by rw [show 3 * (m + 1) = 3 * m + 3 by omega]; exact HY⟩
          case measure => simp [intOf]; omega
    · have : m = 6 := by omega
      subst this
      have ex : x = vacc f n 18 := HX.out
      have hx : x < 262144 := by have := vacc_small f n 18 (by omega); omega
      have hdec := decVer w x (v - 7) (by omega) hx (by rw [ex]; exact HD.out)
      rw [show v - 7 + 7 = v by omega] at hdec
      have HEX := Aside0.mk ex
      clear ex
      go_wp2_with (first | (go_at_call 85; refine hdec.mono ?_; rintro e w' ⟨pv, rfl, hp, hV, hB⟩; have hPb := HP.out.below hB HP.out.lt; have d1 := hPb.cell 1; have d2 := hPb.frozen 1; have HV := Aside0.mk hV; have HBW := Aside0.mk hB; have HPB := Aside0.mk hPb; clear hV hB hPb) | (go_at_call 86; have hvd := verDim _ pv v (verRow v) HV.out (by omega); rw [HN.out] at hvd; refine hvd.mono ?_; rintro e w' ⟨rfl, rfl⟩; clear hvd))
      go_ret2
      have hu : Upd w (w'.setCell ⟨p, 1, none⟩ (.pointer (some ⟨pv, 0, none⟩))) p := (Upd.of_below HBW.out p).trans (Upd.set _ _ _ _)
      have hVx := HV.out.upd (Upd.set w' p 1 (.pointer (some ⟨pv, 0, none⟩))) HPB.out
      refine ⟨pv, rfl, hVx, ⟨.pointer (some ⟨pv, 0, none⟩), ?_, .inr ⟨pv, rfl, hVx⟩⟩, hu⟩
      exact blk_set HPB.out 1 _

/-! ### The table of formats, walked -/
def cu (n : Nat) : Operand := .const (.int .u64 (n : Int))
def fmtKeys : List (Nat × Nat) → Nat → List OpKey
  | [], _ => []
  | p :: L, i => (.buildSlice 249 2 #[(0, cu p.1), (1, cu p.2)], some i, none) :: fmtKeys L (i + 1)
def regOf (f : Func) : Array Oper := match f.body with
  | some (.seq _ (.seq (.region _ ops _) _)) => ops
  | _ => #[]
theorem body156 : Tryz.f156.body = some (.seq (headOf Tryz.f156) (.seq (.region 1 (regOf Tryz.f156) false) .ret)) := by kernel_rfl
theorem head156 : headOf Tryz.f156 = .region 0 (regOps (headOf Tryz.f156)) false ∧ (regOps (headOf Tryz.f156)).toList.map keyOf = [(.assign (.const (.slice none 0 0)), some 0, none)] := ⟨by kernel_rfl, by kernel_rfl⟩
set_option maxRecDepth 100000 in
theorem keys156 : (regOf Tryz.f156).toList.map keyOf = fmtKeys fmtTab 1 ++ [(.buildSlice 247 32 (tmpsAt 1 32), some 33, none), (.assign (.tmp 33), some 0, none)] := by kernel_rfl
theorem run_fmtRow (t d : Int) (W : World) : (Instr.buildSlice 249 2 #[(0, .int .u64 t), (1, .int .u64 d)]).run Tryz.prog W = .ok (.slice (some ⟨W.heap.size, 0, none⟩) 2 2) (W.alloc (.cells #[.int .u64 t, .int .u64 d] 150)) := by kernel_rfl
theorem eval_cu (t d : Nat) (A : Act) : ((#[(0, cu t), (1, cu d)] : Array (Nat × Operand)).map fun p => (p.1, A.eval p.2)) = #[(0, .int .u64 (t : Int)), (1, .int .u64 (d : Int))] := by kernel_rfl
def RowsAt (W' : World) (h : Nat) (L : List (Nat × Nat)) : Prop := ∀ j, j < L.length → Blk W' (h + j) 150 #[.int .u64 ((L.getD j (0, 0)).1 : Int), .int .u64 ((L.getD j (0, 0)).2 : Int)]
theorem rows_wk {ops : Array Oper} {Q : Exit → Act → World → Prop} {ks : List OpKey} : ∀ (L : List (Nat × Nat)) (i : Nat) (a : Act) (W : World), i + L.length < a.tmps.size →
    (∀ a' W', Ext a a' i → (∀ j, j < L.length → a'.eval (.tmp (i + j)) = .slice (some ⟨W.heap.size + j, 0, none⟩) 2 2) → RowsAt W' W.heap.size L → Below W.heap.size W W' → WK ops Q ks a' W') → WK ops Q (fmtKeys L i ++ ks) a W := by
  intro L
  induction L with
  | nil => intro i a W hs k; exact k a W (Ext.refl a i) (fun j hj => by cases hj) (fun j hj => by cases hj) (Below.refl _ _)
  | cons p L ih =>
    intro i a W hs k
    rw [List.length_cons] at hs
    rw [fmtKeys, List.cons_append]
    refine WK_slice 249 2 _ i _ (eval_cu p.1 p.2 a) _ (run_fmtRow p.1 p.2 W) ?_
    obtain ⟨W1, hW1⟩ : ∃ W1, W1 = W.alloc (.cells #[.int .u64 (p.1 : Int), .int .u64 (p.2 : Int)] 150) := ⟨_, rfl⟩
    have hsz : W1.heap.size = W.heap.size + 1 := by rw [hW1]; simp
    have hb1 : Below W.heap.size W W1 := by rw [hW1]; exact below_alloc (Below.refl _ _) _
    have hB : Blk W1 W.heap.size 150 #[.int .u64 (p.1 : Int), .int .u64 (p.2 : Int)] := by rw [hW1]; exact Blk.new _ _ _
    rw [← hW1]
    refine ih (i + 1) _ _ (by rw [Act.size_put]; omega) fun a' W' x e r b => ?_
    rw [hsz] at e r b
    have hb' : Below W.heap.size W W' := hb1.trans (b.mono (by omega))
    refine k a' W' (((Ext.refl a i).put i _ (Nat.le_refl _)).trans x (by omega)) ?_ ?_ hb'
    · intro j hj
      cases j with
      | zero =>
        rw [Nat.add_zero, Nat.add_zero, x.same i (by omega)]
        exact Act.eval_put_same _ _ _ (by omega)
      | succ j =>
        have := e j (by simpa using hj)
        rw [show i + (j + 1) = i + 1 + j by omega, show W.heap.size + (j + 1) = W.heap.size + 1 + j by omega]
        exact this
    · intro j hj
      cases j with
      | zero => exact hB.below b (by omega)
      | succ j =>
        have := r j (by simpa using hj)
        rw [show W.heap.size + (j + 1) = W.heap.size + 1 + j by omega]
        exact this
def hdrVals (h : Nat) : Array (Nat × Value) := ((List.range 32).map fun j => (j, Value.slice (some ⟨h + j, 0, none⟩) 2 2)).toArray
def hdrCells (h : Nat) : List Value := (List.range 32).map fun j => Value.slice (some ⟨h + j, 0, none⟩) 2 2
set_option maxRecDepth 100000 in
theorem run_hdr (h : Nat) (W : World) : (Instr.buildSlice 247 32 (hdrVals h)).run Tryz.prog W = .ok (.slice (some ⟨W.heap.size, 0, none⟩) 32 32) (W.alloc (.cells (hdrCells h).toArray 249)) := by kernel_rfl
theorem eval_hdr (h : Nat) (a : Act) (he : ∀ j, j < 32 → a.eval (.tmp (1 + j)) = .slice (some ⟨h + j, 0, none⟩) 2 2) : ((tmpsAt 1 32).map fun p => (p.1, a.eval p.2)) = hdrVals h := by
  unfold tmpsAt hdrVals
  rw [List.map_toArray, List.map_map]
  congr 1
  apply List.map_congr_left
  intro j hj
  rw [List.mem_range] at hj
  show (j, a.eval (.tmp (1 + j))) = _
  rw [he j hj]
theorem fmt_call (w : World) : Calls Tryz.prog 156 #[] w fun e w' => ∃ ad c, e = .returned (.slice (some ad) 32 c) ∧ 32 ≤ c ∧
    (∀ i, i < 32 → ∃ ax cx, w'.cell? (ad.add i) = some (.slice (some ax) 2 cx) ∧ 2 ≤ cx ∧ w'.cell? ax = some (.int .u64 (((fmtTab.getD i (0, 0)).1 : Nat) : Int)) ∧ w'.cell? ⟨ax.block, ax.off + 1, none⟩ = some (.int .u64 (((fmtTab.getD i (0, 0)).2 : Nat) : Int))) ∧ Below w.heap.size w w' := by
  refine calls_of_wp Tryz.func156 body156 ?_
  obtain ⟨a, ha⟩ : ∃ a : Act, a = { tmps := (#[] : Array Value) ++ Array.replicate (Tryz.f156.ntmps - (#[] : Array Value).size) undef, defers := [] } := ⟨_, rfl⟩
  have hsz : a.tmps.size = 34 := by
    rw [ha]
    show ((#[] : Array Value) ++ Array.replicate (Tryz.f156.ntmps - 0) undef).size = 34
    rw [Array.size_append, Array.size_replicate, show Tryz.f156.ntmps = 34 from by kernel_rfl]
    rfl
  have hdf : a.defers = [] := by rw [ha]
  rw [← ha]
  obtain ⟨k1, k2⟩ := head156
  refine wp_seq ?_
  rw [k1]
  refine wp_region_list ?_
  refine (?_ : WK _ _ _ a w) _ k2
  refine WK_assign _ 0 (WK_nil ?_)
  show Code.wp Tryz.prog _ _ _ w
  refine wp_seq (wp_region_list ?_)
  refine (?_ : WK _ _ _ _ w) _ keys156
  refine rows_wk fmtTab 1 _ w (by rw [Act.size_put, hsz]; decide) fun a' W' x e r b => ?_
  refine WK_slice 247 32 _ 33 _ (eval_hdr w.heap.size a' (fun j hj => e j hj)) _ (run_hdr w.heap.size W') ?_
  refine WK_assign _ 0 (WK_nil ?_)
  show Code.wp Tryz.prog _ _ _ _
  refine wp_ret ?_
  have s1 : a'.tmps.size = 34 := by rw [x.size, Act.size_put, hsz]
  have e33 : (a'.put (some 33) (.slice (some ⟨W'.heap.size, 0, none⟩) 32 32)).eval (.tmp 33) = .slice (some ⟨W'.heap.size, 0, none⟩) 32 32 := Act.eval_put_same _ _ _ (by omega)
  rw [e33]
  have e0 : ((a'.put (some 33) (.slice (some ⟨W'.heap.size, 0, none⟩) 32 32)).put (some 0) (.slice (some ⟨W'.heap.size, 0, none⟩) 32 32)).eval (.tmp 0) = .slice (some ⟨W'.heap.size, 0, none⟩) 32 32 := Act.eval_put_same _ _ _ (by rw [Act.size_put]; omega)
  have hD : ((a'.put (some 33) (.slice (some ⟨W'.heap.size, 0, none⟩) 32 32)).put (some 0) (.slice (some ⟨W'.heap.size, 0, none⟩) 32 32)).defers = [] := by rw [Act.defers_put', Act.defers_put', x.defers, Act.defers_put', hdf]
  obtain ⟨A, hA⟩ : ∃ A, A = (a'.put (some 33) (.slice (some ⟨W'.heap.size, 0, none⟩) 32 32)).put (some 0) (.slice (some ⟨W'.heap.size, 0, none⟩) 32 32) := ⟨_, rfl⟩
  rw [← hA] at e0 hD ⊢
  clear hA
  refine bodyPost_ret (v := .slice (some ⟨W'.heap.size, 0, none⟩) 32 32) ?_ hD ?_
  · rw [show results Tryz.f156 = results { Tryz.f156 with results := #[.tmp 0] } from by unfold results; rw [show Tryz.f156.results = #[.tmp 0] from by kernel_rfl]]
    have : (A.tmps[0]?.getD undef) = .slice (some ⟨W'.heap.size, 0, none⟩) 32 32 := by simpa [Act.eval] using e0
    simp [results, go_sem, this]
  · refine ⟨⟨W'.heap.size, 0, none⟩, 32, rfl, Nat.le_refl _, ?_, below_alloc b _⟩
    intro i hi
    have hH := Blk.new W' 249 (hdrCells w.heap.size).toArray
    have hR := (r i hi).alloc (.cells (hdrCells w.heap.size).toArray 249)
    refine ⟨⟨w.heap.size + i, 0, none⟩, 2, ?_, Nat.le_refl _, hR.cell 0, hR.cell 1⟩
    rw [add_plain, hH.cell]
    unfold hdrCells
    simp [List.getElem?_range hi]

/-! ### Formats -/
theorem ecl_forBits (w : World) (c : Nat) (h : c < 4) : Calls Tryz.prog 169 #[.int .u64 (c : Int)] w fun e w' => e = .returned (.tuple #[.int .i64 (c : Int), .nilIface]) ∧ w = w' := by
  have h4 : c = 0 ∨ c = 1 ∨ c = 2 ∨ c = 3 := by omega
  clear h
  rcases h4 with rfl | rfl | rfl | rfl
  all_goals
    go_enter Tryz.func169, Tryz.ntmps169
    go_wp2
    go_ret2
    exact ⟨rfl, rfl⟩
def FmtAt (w : World) (q d : Nat) : Prop := Blk w q 156 #[.int .i64 ((d / 8 : Nat) : Int), .int .u8 ((d % 8 : Nat) : Int)]
theorem newFmtInfo (w : World) (d : Nat) (h : d < 32) : Calls Tryz.prog 157 #[.int .u64 (d : Int)] w fun e w' => e = .returned (.pointer (some ⟨w.heap.size, 0, none⟩)) ∧ FmtAt w' w.heap.size d ∧ Below w.heap.size w w' := by
  have h1 : Go.bits .and .u64 ((d : Int) / 8) 3 = ((d / 8 : Nat) : Int) := by
    have := u64_and_nat (d / 8) 3 (by omega) (by omega)
    rw [show d / 8 &&& 3 = d / 8 % 4 from Nat.and_two_pow_sub_one_eq_mod (n := 2) _, show d / 8 % 4 = d / 8 by omega] at this
    rw [← this]; rfl
  have h2 : Go.bits .and .u64 (d : Int) 7 = ((d % 8 : Nat) : Int) := by
    have := u64_and_nat d 7 (by omega) (by omega)
    rw [show d &&& 7 = d % 8 from Nat.and_two_pow_sub_one_eq_mod (n := 3) _] at this
    rw [← this]; rfl
  obtain ⟨x, hx⟩ : ∃ x, d / 8 = x := ⟨_, rfl⟩
  obtain ⟨y, hy⟩ : ∃ y, d % 8 = y := ⟨_, rfl⟩
  unfold FmtAt
  rw [hx] at h1
  rw [hy] at h2
  rw [hx, hy]
  have hxl : x < 4 := by omega
  have hyl : y < 8 := by omega
  clear hx hy
  go_enter Tryz.func157, Tryz.ntmps157
  go_wp2_with (go_at_call 169; refine (ecl_forBits _ x hxl).mono ?_; rintro e w' ⟨rfl, rfl⟩)
  go_ret
  exact ⟨rfl, Blk.new _ _ _, (Below.refl _ _).alloc (Nat.le_refl _) _⟩
theorem fmtTab_lim : ∀ i : Fin 32, (fmtTab.getD i.val (0, 0)).1 < 65536 ∧ (fmtTab.getD i.val (0, 0)).2 < 32 := by decide
def goesF (a b d i best info : Nat) : Prop := fmtGo a b (fmtTab.drop i) (best, info) = some d
theorem goesF_step {a b d i best info : Nat} (hi : i < 32) (h : goesF a b d i best info) :
    (((fmtTab.getD i (0, 0)).1 = a ∨ (fmtTab.getD i (0, 0)).1 = b) ∧ (fmtTab.getD i (0, 0)).2 = d) ∨
    ((¬ ((fmtTab.getD i (0, 0)).1 = a ∨ (fmtTab.getD i (0, 0)).1 = b)) ∧ goesF a b d (i + 1) (fmtStep a b (fmtTab.getD i (0, 0)).1 (fmtTab.getD i (0, 0)).2 (best, info)).1 (fmtStep a b (fmtTab.getD i (0, 0)).1 (fmtTab.getD i (0, 0)).2 (best, info)).2) := by
  have hl : i < fmtTab.length := hi
  have hd : fmtTab.drop i = fmtTab.getD i (0, 0) :: fmtTab.drop (i + 1) := by
    rw [List.drop_eq_getElem_cons hl, List.getD_eq_getElem?_getD, List.getElem?_eq_getElem hl]
    rfl
  unfold goesF at h ⊢
  rw [hd] at h
  generalize fmtTab.getD i (0, 0) = x at h ⊢
  obtain ⟨t, dd⟩ := x
  rw [fmtGo] at h
  by_cases hc : t = a ∨ t = b
  · rw [if_pos hc] at h
    exact .inl ⟨hc, Option.some.inj h⟩
  · rw [if_neg hc] at h
    exact .inr ⟨hc, h⟩
def SomeFmt (w : World) (d : Nat) (e : Ending) (w' : World) : Prop := ∃ q, e = .returned (.pointer (some ⟨q, 0, none⟩)) ∧ w.heap.size ≤ q ∧ FmtAt w' q d ∧ Below w.heap.size w w'
theorem u8_one : True := trivial
set_option maxHeartbeats 2000000 in
theorem doDec (w : World) (a b d : Nat) (ha : a < 65536) (hb : b < 65536) (hd32 : d < 32) (hg : fmtGo a b fmtTab (2147483647, 0) = some d) :
    Calls Tryz.prog 130 #[.int .u64 (a : Int), .int .u64 (b : Int)] w (SomeFmt w d) := by
  have H0 := Aside0.mk (show goesF a b d 0 2147483647 0 from hg)
  clear hg
  go_enter Tryz.func130, Tryz.ntmps130
  go_wp2_with (go_at_call 156; refine (fmt_call _).mono ?_; rintro e w' ⟨ad, c, rfl, hc, hcell, hb⟩)
  have HC := Aside0.mk hcell
  have HB := Aside0.mk hb
  obtain ⟨w1, rfl⟩ : ∃ w1 : World, w1 = w' := ⟨_, rfl⟩
  clear hcell hb
  go_loopw [5, 6, 13] (fun vb vv vi wr => ∃ i best info : Nat, i ≤ 32 ∧ vb = .int .i64 (best : Int) ∧ vv = .int .u64 (info : Int) ∧ vi = .int .i64 (i : Int) ∧ best ≤ 2147483647 ∧ info < 32 ∧ Aside0 (goesF a b d i best info) ∧ Aside0 (Below w1.heap.size w1 wr)) (fun _ _ vi _ => (32 - intOf vi).toNat)
  case atStart => exact ⟨0, 2147483647, 0, by omega, rfl, rfl, rfl, by omega, by omega, H0, ⟨Below.refl _ _⟩⟩
  case round =>
    obtain ⟨i, best, info, hi, rfl, rfl, rfl, hbest, hinfo, HG, HBr⟩ := hrel
    by_cases hlt32 : i < 32
    · obtain ⟨ax, cx, q0, hcx, q1, q2⟩ := HC.out i hlt32
      have hlim := fmtTab_lim ⟨i, hlt32⟩
      have hst := goesF_step hlt32 HG.out
      simp only at hlim
      obtain ⟨t, ht⟩ : ∃ t, (fmtTab.getD i (0, 0)).1 = t := ⟨_, rfl⟩
      obtain ⟨dd, hdd⟩ : ∃ dd, (fmtTab.getD i (0, 0)).2 = dd := ⟨_, rfl⟩
      rw [ht, hdd] at hst hlim
      rw [ht] at q1
      rw [hdd] at q2
      obtain ⟨hl1, hl2⟩ := hlim
      replace q0 := pw_cell_below HBr.out q0
      replace q1 := pw_cell_below HBr.out q1
      replace q2 := pw_cell_below HBr.out q2
      clear ht hdd
      rcases hst with ⟨e1, e2⟩ | ⟨e1, e2⟩
      · subst e2
        rcases Decidable.em (t = a) with e3 | e3
        · subst e3
          clear e1
          go_wp2_with (go_at_call 157; refine (newFmtInfo _ dd hl2).mono ?_; rintro e w' ⟨rfl, hf, hbf⟩)
          have HF := Aside0.mk hf
          clear hf
          go_ret
          refine ⟨_, rfl, ?_, HF.out, ?_⟩
          · have := HB.out.size; have := HBr.out.size; omega
          · exact HB.out.trans ((HBr.out.mono HB.out.size).trans (hbf.mono (Nat.le_trans HB.out.size HBr.out.size)))
        · have e4 : t = b := by rcases e1 with e | e; exact absurd e e3; exact e
          subst e4
          have hne : ((t : Int) == (a : Int)) = false := by simpa using (fun h : (t : Int) = (a : Int) => e3 (by omega))
          clear e1 e3
          go_wp2_with (go_at_call 157; refine (newFmtInfo _ dd hl2).mono ?_; rintro e w' ⟨rfl, hf, hbf⟩)
          have HF := Aside0.mk hf
          clear hf
          go_ret
          refine ⟨_, rfl, ?_, HF.out, ?_⟩
          · have := HB.out.size; have := HBr.out.size; omega
          · exact HB.out.trans ((HBr.out.mono HB.out.size).trans (hbf.mono (Nat.le_trans HB.out.size HBr.out.size)))
      · have hta : t ≠ a := fun h => e1 (.inl h)
        have htb : t ≠ b := fun h => e1 (.inr h)
        have hne1 : ((t : Int) == (a : Int)) = false := by simpa using (fun h : (t : Int) = (a : Int) => hta (by omega))
        have hne2 : ((t : Int) == (b : Int)) = false := by simpa using (fun h : (t : Int) = (b : Int) => htb (by omega))
        have hdl1 : hd a t ≤ 64 := pcN_le 64 _
        have hdl2 : hd b t ≤ 64 := pcN_le 64 _
        have hcall1 := F.decoder_FormatInformation_NumBitsDiffering.calls a t _ wr (bitsDiff a t (by omega) (by omega))
        have hcall2 := fun W => F.decoder_FormatInformation_NumBitsDiffering.calls b t _ W (bitsDiff b t (by omega) (by omega))
        obtain ⟨x, hx⟩ : ∃ x, hd a t = x := ⟨_, rfl⟩
        obtain ⟨y, hy⟩ : ∃ y, hd b t = y := ⟨_, rfl⟩
        have HE := Aside0.mk e2
        rw [hx] at hcall1 hdl1
        simp only [hy] at hcall2
        rw [hy] at hdl2
        have HX := Aside0.mk hx
        have HY := Aside0.mk hy
        have HC2 := Aside0.mk hcall2
        clear e1 e2 hx hy hta htb hcall2
        rcases Decidable.em (a = b) with hab | hab
        · subst hab
          by_cases hl : x < best
          · go_wp2_with (go_at_call 128; refine hcall1.mono ?_; rintro e w' ⟨rfl, hdr⟩; obtain ⟨nd, rfl⟩ := hdr.out)
            go_roundw
            case rel => exact ⟨i + 1, x, dd, by omega, rfl, by go_num, by go_num, by omega, hl2, ⟨by have := HE.out; unfold fmtStep nearStep at this; rw [if_pos rfl, HX.out, if_pos hl] at this; exact this⟩, ⟨pw_below_drewN HBr.out _⟩⟩
            case measure => simp [intOf]; omega
          · go_wp2_with (go_at_call 128; refine hcall1.mono ?_; rintro e w' ⟨rfl, hdr⟩; obtain ⟨nd, rfl⟩ := hdr.out)
            go_roundw
            case rel => exact ⟨i + 1, best, info, by omega, rfl, by go_num, by go_num, by omega, hinfo, ⟨by have := HE.out; unfold fmtStep nearStep at this; rw [if_pos rfl, HX.out, if_neg hl] at this; exact this⟩, ⟨pw_below_drewN HBr.out _⟩⟩
            case measure => simp [intOf]; omega
        · have hne3 : ((a : Int) == (b : Int)) = false := by simpa using (fun h : (a : Int) = (b : Int) => hab (by omega))
          have hne4 : ((a : Int) != (b : Int)) = true := by rw [bne, hne3]; rfl
          have HAB := Aside0.mk hab
          clear hab
          have hstep : ∀ s : Nat × Nat, fmtStep a b t dd s = nearStep b t dd (nearStep a t dd s) := fun s => if_neg HAB.out
          by_cases hl : x < best
          · by_cases hk : y < x
            · have HS := Aside0.mk (show fmtStep a b t dd (best, info) = (y, dd) by rw [hstep]; unfold nearStep; rw [HX.out, HY.out, if_pos (show x < (best, info).1 from hl), if_pos (show y < (x, dd).1 from hk)])
              clear hstep
              go_wp2_with (first | (go_at_call_of 128 (a : Int); refine hcall1.mono ?_; rintro e w' ⟨rfl, hdr⟩; obtain ⟨nd, rfl⟩ := hdr.out) | (go_at_call 128; refine (HC2.out _).mono ?_; rintro e w' ⟨rfl, hdr⟩; obtain ⟨nd2, rfl⟩ := hdr.out))
              go_roundw
              case rel => exact ⟨i + 1, y, dd, by omega, rfl, by go_num, by go_num, by omega, hl2, ⟨by have := HE.out; rw [HS.out] at this; exact this⟩, ⟨by repeat (first | exact HBr.out | apply pw_below_drewN)⟩⟩
              case measure => simp [intOf]; omega
            · have HS := Aside0.mk (show fmtStep a b t dd (best, info) = (x, dd) by rw [hstep]; unfold nearStep; rw [HX.out, HY.out, if_pos (show x < (best, info).1 from hl), if_neg (show ¬ y < (x, dd).1 from hk)])
              clear hstep
              go_wp2_with (first | (go_at_call_of 128 (a : Int); refine hcall1.mono ?_; rintro e w' ⟨rfl, hdr⟩; obtain ⟨nd, rfl⟩ := hdr.out) | (go_at_call 128; refine (HC2.out _).mono ?_; rintro e w' ⟨rfl, hdr⟩; obtain ⟨nd2, rfl⟩ := hdr.out))
              go_roundw
              case rel => exact ⟨i + 1, x, dd, by omega, rfl, by go_num, by go_num, by omega, hl2, ⟨by have := HE.out; rw [HS.out] at this; exact this⟩, ⟨by repeat (first | exact HBr.out | apply pw_below_drewN)⟩⟩
              case measure => simp [intOf]; omega
          · by_cases hk : y < best
            · have HS := Aside0.mk (show fmtStep a b t dd (best, info) = (y, dd) by rw [hstep]; unfold nearStep; rw [HX.out, HY.out, if_neg (show ¬ x < (best, info).1 from hl), if_pos (show y < (best, info).1 from hk)])
              clear hstep
              go_wp2_with (first | (go_at_call_of 128 (a : Int); refine hcall1.mono ?_; rintro e w' ⟨rfl, hdr⟩; obtain ⟨nd, rfl⟩ := hdr.out) | (go_at_call 128; refine (HC2.out _).mono ?_; rintro e w' ⟨rfl, hdr⟩; obtain ⟨nd2, rfl⟩ := hdr.out))
              go_roundw
              case rel => exact ⟨i + 1, y, dd, by omega, rfl, by go_num, by go_num, by omega, hl2, ⟨by have := HE.out; rw [HS.out] at this; exact this⟩, ⟨by repeat (first | exact HBr.out | apply pw_below_drewN)⟩⟩
              case measure => simp [intOf]; omega
            · have HS := Aside0.mk (show fmtStep a b t dd (best, info) = (best, info) by rw [hstep]; unfold nearStep; rw [HX.out, HY.out, if_neg (show ¬ x < (best, info).1 from hl), if_neg (show ¬ y < (best, info).1 from hk)])
              clear hstep
              go_wp2_with (first | (go_at_call_of 128 (a : Int); refine hcall1.mono ?_; rintro e w' ⟨rfl, hdr⟩; obtain ⟨nd, rfl⟩ := hdr.out) | (go_at_call 128; refine (HC2.out _).mono ?_; rintro e w' ⟨rfl, hdr⟩; obtain ⟨nd2, rfl⟩ := hdr.out))
              go_roundw
              case rel => exact ⟨i + 1, best, info, by omega, rfl, by go_num, by go_num, by omega, hinfo, ⟨by have := HE.out; rw [HS.out] at this; exact this⟩, ⟨by repeat (first | exact HBr.out | apply pw_below_drewN)⟩⟩
              case measure => simp [intOf]; omega
    · have : i = 32 := by omega
      subst this
      have hfin := HG.out
      unfold goesF at hfin
      rw [show fmtTab.drop 32 = [] from rfl, fmtGo] at hfin
      split at hfin
      · rename_i hb3
        have hb3 : best ≤ 3 := hb3
        have e : info = d := Option.some.inj hfin
        subst e
        clear hfin
        go_wp2_with (go_at_call 157; refine (newFmtInfo _ info hinfo).mono ?_; rintro e w' ⟨rfl, hf, hbf⟩)
        have HF := Aside0.mk hf
        clear hf
        go_ret
        refine ⟨_, rfl, ?_, HF.out, ?_⟩
        · have := HB.out.size; have := HBr.out.size; omega
        · exact HB.out.trans ((HBr.out.mono HB.out.size).trans (hbf.mono (Nat.le_trans HB.out.size HBr.out.size)))
      · cases hfin

/-! ### The parser reads its format -/
theorem decFmt (w : World) (a b d : Nat) (ha : a < 65536) (hb : b < 65536) (hd : d < 32) (hg : fmtGo a b fmtTab (2147483647, 0) = some d) :
    Calls Tryz.prog 88 #[.int .u64 (a : Int), .int .u64 (b : Int)] w (SomeFmt w d) := by
  have k := doDec w a b d ha hb hd hg
  clear hg
  go_enter Tryz.func88, Tryz.ntmps88
  go_wp2_with (go_at_call 130; refine k.mono ?_; rintro e w' ⟨q, rfl, hq, hf, hB⟩)
  have HF := Aside0.mk hf
  clear hf
  go_ret
  exact ⟨q, rfl, hq, HF.out, hB⟩
/-- A number, bit by bit, the highest first. -/
def nacc (g : Nat → Bool) : Nat → Nat
  | 0 => 0
  | k + 1 => 2 * nacc g k + (g k).toNat
theorem nacc_lt (g : Nat → Bool) : ∀ k, nacc g k < 2 ^ k := by
  intro k
  induction k with
  | zero => exact Nat.one_pos
  | succ k ih =>
    rw [nacc, Nat.pow_succ]
    have : (g k).toNat ≤ 1 := Bool.toNat_le _
    omega
def fat1 (f : Nat → Nat → Bool) (k : Nat) : Bool := if k < 6 then f k 8 else if k = 6 then f 7 8 else if k = 7 then f 8 8 else if k = 8 then f 8 7 else f 8 (14 - k)
def fat2 (f : Nat → Nat → Bool) (n k : Nat) : Bool := if k < 7 then f 8 (n - 1 - k) else f (n - 15 + k) 8
theorem nacc_small (g : Nat → Bool) (k : Nat) (h : k ≤ 15) : nacc g k < 32768 := Nat.lt_of_lt_of_le (nacc_lt g k) (Nat.pow_le_pow_right (n := 2) (by omega) h)
def FmtRead (w : World) (p g v d : Nat) (e : Ending) (w' : World) : Prop := ∃ q, e = .returned (.tuple #[.pointer (some ⟨q, 0, none⟩), .nilIface]) ∧ FmtAt w' q d ∧ Parser w' p g v (.pointer (some ⟨q, 0, none⟩)) ∧ Upd w w' p
theorem readFormat_again (w : World) (p g v q d : Nat) (hP : Parser w p g v (.pointer (some ⟨q, 0, none⟩))) (hF : FmtAt w q d) :
    Calls Tryz.prog 40 #[.pointer (some ⟨p, 0, none⟩)] w (FmtRead w p g v d) := by
  obtain ⟨x1, hB, hx⟩ := hP
  have c1 : w.cell? ⟨p, 2, none⟩ = some (.pointer (some ⟨q, 0, none⟩)) := hB.cell 2
  have HB := Aside0.mk hB
  have HX := Aside0.mk hx
  have HF := Aside0.mk hF
  clear hB hx hF
  go_enter Tryz.func40, Tryz.ntmps40
  go_wp2
  go_ret2
  exact ⟨q, rfl, HF.out, ⟨x1, HB.out, HX.out⟩, Upd.refl _ _⟩
set_option maxHeartbeats 4000000 in
theorem readFormat (w : World) (p g b v d : Nat) (f : Nat → Nat → Bool) (hP : Parser w p g v (.pointer none)) (G : Grid w g b (17 + 4 * v) (17 + 4 * v) f) (hv : 1 ≤ v ∧ v ≤ 40) (hd : d < 32)
    (hg : fmtGo (nacc (fat1 f) 15) (nacc (fat2 f (17 + 4 * v)) 15) fmtTab (2147483647, 0) = some d) :
    Calls Tryz.prog 40 #[.pointer (some ⟨p, 0, none⟩)] w (FmtRead w p g v d) := by
  obtain ⟨x1, hB, hx⟩ := hP
  have k := gridHeight w g b _ _ f G
  have c0 : w.cell? ⟨p, 0, none⟩ = some (.pointer (some ⟨g, 0, none⟩)) := hB.cell 0
  have c2 : w.cell? ⟨p, 2, none⟩ = some (.pointer none) := hB.cell 2
  obtain ⟨n, hn⟩ : ∃ n, 17 + 4 * v = n := ⟨_, rfl⟩
  rw [hn] at k G hg
  have hb1 : 21 ≤ n := by omega
  have hb2 : n ≤ 177 := by omega
  have HB := Aside0.mk hB
  have HX := Aside0.mk hx
  have HG := Aside0.mk G
  have HD := Aside0.mk hg
  clear hB hx G hg hn hv
  go_enter Tryz.func40, Tryz.ntmps40
  go_wp2
  go_loop [4, 5] (fun va vi => ∃ i x : Nat, i ≤ 6 ∧ vi = .int .i64 (i : Int) ∧ va = .int .i64 (x : Int) ∧ Aside0 (x = nacc (fat1 f) i)) (fun _ vi => (6 - intOf vi).toNat)
  case atStart => exact ⟨0, 0, by omega, rfl, rfl, ⟨rfl⟩⟩
  case round =>
    obtain ⟨i, x, hi, rfl, rfl, HX1⟩ := hrel
    have hxl : x < 32768 := by have := nacc_small (fat1 f) i (by omega); have := HX1.out; omega
    by_cases hlt : i < 6
    · have hcb := copyBit w p g b n n f x1 (.pointer none) i 8 x HB.out HG.out (by omega) (by omega) (by omega) (by omega) (by omega)
      have hy : 2 * x + (f i 8).toNat = nacc (fat1 f) (i + 1) := by
        rw [nacc, ← HX1.out, show fat1 f i = f i 8 from by unfold fat1; rw [if_pos hlt]]
      obtain ⟨z, hz⟩ : ∃ z, 2 * x + (f i 8).toNat = z := ⟨_, rfl⟩
      rw [hz] at hcb hy
      have HZ := Aside0.mk hy
      clear hz hy
      go_wp2_with (go_at_call 84; refine hcb.mono ?_; rintro e w' ⟨rfl, rfl⟩)
      go_round
      case rel => exact ⟨i + 1, z, by omega, by go_num, rfl, HZ⟩
      case measure => simp [intOf]; omega
    · have : i = 6 := by omega
      subst this
      obtain ⟨x7, h7⟩ : ∃ z, 2 * x + (f 7 8).toNat = z := ⟨_, rfl⟩
      have e7 : x7 = nacc (fat1 f) 7 := by rw [nacc, ← HX1.out, ← h7]; rfl
      have l7 := nacc_small (fat1 f) 7 (by omega)
      rw [← e7] at l7
      obtain ⟨x8, h8⟩ : ∃ z, 2 * x7 + (f 8 8).toNat = z := ⟨_, rfl⟩
      have e8 : x8 = nacc (fat1 f) 8 := by rw [nacc, ← e7, ← h8]; rfl
      have l8 := nacc_small (fat1 f) 8 (by omega)
      rw [← e8] at l8
      obtain ⟨x9, h9⟩ : ∃ z, 2 * x8 + (f 8 7).toNat = z := ⟨_, rfl⟩
      have e9 : x9 = nacc (fat1 f) 9 := by rw [nacc, ← e8, ← h9]; rfl
      have l9 := nacc_small (fat1 f) 9 (by omega)
      rw [← e9] at l9
      have k7 := copyBit w p g b n n f x1 (.pointer none) 7 8 x HB.out HG.out (by omega) (by omega) (by omega) (by omega) (by omega)
      have k8 := copyBit w p g b n n f x1 (.pointer none) 8 8 x7 HB.out HG.out (by omega) (by omega) (by omega) (by omega) (by omega)
      have k9 := copyBit w p g b n n f x1 (.pointer none) 8 7 x8 HB.out HG.out (by omega) (by omega) (by omega) (by omega) (by omega)
      rw [h7] at k7
      rw [h8] at k8
      rw [h9] at k9
      have HE := Aside0.mk e9
      clear e7 e8 e9 h7 h8 h9
      go_wp2_with (first | (go_at_call_of 84 (x : Int); refine k7.mono ?_; rintro e w' ⟨rfl, rfl⟩) | (go_at_call_of 84 (x7 : Int); refine k8.mono ?_; rintro e w' ⟨rfl, rfl⟩) | (go_at_call_of 84 (x8 : Int); refine k9.mono ?_; rintro e w' ⟨rfl, rfl⟩))
      clear k7 k8 k9
      go_loop [4, 6] (fun va vj => ∃ m y : Nat, m ≤ 6 ∧ vj = .int .i64 (5 - (m : Int)) ∧ va = .int .i64 (y : Int) ∧ Aside0 (y = nacc (fat1 f) (9 + m))) (fun _ vj => (intOf vj + 1).toNat)
      case atStart => exact ⟨0, x9, by omega, rfl, rfl, HE⟩
      case round =>
        obtain ⟨m, y, hm, rfl, rfl, HY⟩ := hrel
        have hyl : y < 32768 := by have := nacc_small (fat1 f) (9 + m) (by omega); have := HY.out; omega
        by_cases hlt6 : m < 6
        · have hcb := copyBit w p g b n n f x1 (.pointer none) 8 (5 - m) y HB.out HG.out (by omega) (by omega) (by omega) (by omega) (by omega)
          rw [show ((5 - m : Nat) : Int) = 5 - (m : Int) by omega] at hcb
          have hy : 2 * y + (f 8 (5 - m)).toNat = nacc (fat1 f) (9 + (m + 1)) := by
            rw [show 9 + (m + 1) = 9 + m + 1 by omega, nacc, ← HY.out, show fat1 f (9 + m) = f 8 (5 - m) from by unfold fat1; rw [if_neg (by omega), if_neg (by omega), if_neg (by omega), if_neg (by omega), show 14 - (9 + m) = 5 - m by omega]]
          obtain ⟨z, hz⟩ : ∃ z, 2 * y + (f 8 (5 - m)).toNat = z := ⟨_, rfl⟩
          rw [hz] at hcb hy
          have HZ := Aside0.mk hy
          clear hz hy
          go_wp2_with (go_at_call 84; refine hcb.mono ?_; rintro e w' ⟨rfl, rfl⟩)
          go_round
          case rel => exact ⟨m + 1, z, by omega, by go_num, rfl, HZ⟩
          case measure => simp [intOf]; omega
        · have : m = 6 := by omega
          subst this
          have HA := Aside0.mk (show y = nacc (fat1 f) 15 from HY.out)
          clear hyl
          have hyl : y < 32768 := by have := nacc_small (fat1 f) 15 (by omega); have := HA.out; omega
          go_wp2_with (go_at_call 83; refine k.mono ?_; rintro e w' ⟨rfl, rfl⟩)
          go_loop [8, 10] (fun va vj => ∃ t s : Nat, t ≤ 7 ∧ vj = .int .i64 ((n : Int) - 1 - (t : Int)) ∧ va = .int .i64 (s : Int) ∧ Aside0 (s = nacc (fat2 f n) t)) (fun _ vj => (intOf vj - (n : Int) + 8).toNat)
          case atStart => exact ⟨0, 0, by omega, by go_num, rfl, ⟨rfl⟩⟩
          case round =>
            obtain ⟨t, s, ht, rfl, rfl, HS⟩ := hrel
            have hsl : s < 32768 := by have := nacc_small (fat2 f n) t (by omega); have := HS.out; omega
            by_cases hlt7 : t < 7
            · have hcb := copyBit w p g b n n f x1 (.pointer none) 8 (n - 1 - t) s HB.out HG.out (by omega) (by omega) (by omega) (by omega) (by omega)
              rw [show ((n - 1 - t : Nat) : Int) = (n : Int) - 1 - (t : Int) by omega] at hcb
              have hy : 2 * s + (f 8 (n - 1 - t)).toNat = nacc (fat2 f n) (t + 1) := by
                rw [nacc, ← HS.out, show fat2 f n t = f 8 (n - 1 - t) from by unfold fat2; rw [if_pos hlt7]]
              obtain ⟨z, hz⟩ : ∃ z, 2 * s + (f 8 (n - 1 - t)).toNat = z := ⟨_, rfl⟩
              rw [hz] at hcb hy
              have HZ := Aside0.mk hy
              clear hz hy
              go_wp2_with (go_at_call 84; refine hcb.mono ?_; rintro e w' ⟨rfl, rfl⟩)
              go_round
              case rel => exact ⟨t + 1, z, by omega, by go_num, rfl, HZ⟩
              case measure => simp [intOf]; omega
            · have : t = 7 := by omega
              subst this
              go_wp2
              go_loop [8, 11] (fun va vi => ∃ t s : Nat, t ≤ 8 ∧ vi = .int .i64 ((n : Int) - 8 + (t : Int)) ∧ va = .int .i64 (s : Int) ∧ Aside0 (s = nacc (fat2 f n) (7 + t))) (fun _ vi => ((n : Int) - intOf vi).toNat)
              case atStart => exact ⟨0, s, by omega, by go_num, rfl, HS⟩
              case round =>
                obtain ⟨t, s, ht, rfl, rfl, HS⟩ := hrel
                have hsl : s < 32768 := by have := nacc_small (fat2 f n) (7 + t) (by omega); have := HS.out; omega
                by_cases hlt8 : t < 8
                · have hcb := copyBit w p g b n n f x1 (.pointer none) (n - 8 + t) 8 s HB.out HG.out (by omega) (by omega) (by omega) (by omega) (by omega)
                  rw [show ((n - 8 + t : Nat) : Int) = (n : Int) - 8 + (t : Int) by omega] at hcb
                  have hy : 2 * s + (f (n - 8 + t) 8).toNat = nacc (fat2 f n) (7 + (t + 1)) := by
                    rw [show 7 + (t + 1) = 7 + t + 1 by omega, nacc, ← HS.out, show fat2 f n (7 + t) = f (n - 8 + t) 8 from by unfold fat2; rw [if_neg (by omega), show n - 15 + (7 + t) = n - 8 + t by omega]]
                  obtain ⟨z, hz⟩ : ∃ z, 2 * s + (f (n - 8 + t) 8).toNat = z := ⟨_, rfl⟩
                  rw [hz] at hcb hy
                  have HZ := Aside0.mk hy
                  clear hz hy
                  go_wp2_with (go_at_call 84; refine hcb.mono ?_; rintro e w' ⟨rfl, rfl⟩)
                  go_round
                  case rel => exact ⟨t + 1, z, by omega, by go_num, rfl, HZ⟩
                  case measure => simp [intOf]; omega
                · have : t = 8 := by omega
                  subst this
                  have HA2 := Aside0.mk (show s = nacc (fat2 f n) 15 from HS.out)
                  have hdec := decFmt w y s d (by omega) (by omega) hd (by rw [HA.out, HA2.out]; exact HD.out)
                  go_wp2_with (go_at_call 88; refine hdec.mono ?_; rintro e w' ⟨q, rfl, hq, hF, hBw⟩; have hPb := HB.out.below hBw HB.out.lt; have d0 := hPb.cell 0; have d2 := hPb.cell 2; have d3 := hPb.frozen 2; have HF := Aside0.mk hF; have HBW := Aside0.mk hBw; have HPB := Aside0.mk hPb; clear hF hBw hPb)
                  go_ret2
                  have hu : Upd w (w'.setCell ⟨p, 2, none⟩ (.pointer (some ⟨q, 0, none⟩))) p := (Upd.of_below HBW.out p).trans (Upd.set _ _ _ _)
                  refine ⟨q, rfl, (Upd.set w' p 2 (.pointer (some ⟨q, 0, none⟩))).blk HF.out (blk_ne HF.out HPB.out (by decide)), ⟨x1, blk_set HPB.out 2 _, ?_⟩, hu⟩
                  rcases HX.out with h | ⟨pv, h, hV⟩
                  · exact .inl h
                  · exact .inr ⟨pv, h, (hV.upd (Upd.of_below HBW.out p) HB.out).upd (Upd.set w' p 2 (.pointer (some ⟨q, 0, none⟩))) HPB.out⟩

/-! ### Polynomials in memory -/
def ints (xs : List Nat) : List Int := xs.map fun (x : Nat) => (x : Int)
theorem ints_len (xs : List Nat) : (ints xs).length = xs.length := by simp [ints]
theorem ints_get (xs : List Nat) (i : Nat) : (ints xs).getD i 0 = ((xs.getD i 0 : Nat) : Int) := by
  unfold ints
  rw [List.getD_eq_getElem?_getD, List.getD_eq_getElem?_getD, List.getElem?_map]
  cases xs[i]? <;> rfl
/-- What a new polynomial's coefficients are: no noughts ahead. -/
def strip (xs : List Nat) : List Nat := match xs.dropWhile (· == 0) with | [] => [0] | y :: ys => y :: ys
theorem strip_lead {xs : List Nat} (h : xs.length = 1 ∨ xs.getD 0 0 ≠ 0) (h0 : xs ≠ []) : strip xs = xs := by
  unfold strip
  cases xs with
  | nil => exact absurd rfl h0
  | cons x xs =>
    by_cases hx : x = 0
    · subst hx
      rcases h with h | h
      · have : xs = [] := by simpa using h
        subst this
        rfl
      · exact absurd rfl h
    · rw [List.dropWhile_cons, if_neg (by simpa using hx)]
theorem drop_zeros : ∀ (xs : List Nat) (k : Nat), k ≤ xs.length → (∀ i, i < k → xs.getD i 0 = 0) → xs.dropWhile (· == 0) = (xs.drop k).dropWhile (· == 0) := by
  intro xs
  induction xs with
  | nil => intro k hk _; simp at hk; subst hk; rfl
  | cons x xs ih =>
    intro k hk h
    cases k with
    | zero => rfl
    | succ k =>
      have hx : x = 0 := h 0 (by omega)
      subst hx
      rw [List.dropWhile_cons, if_pos (by rfl), List.drop_succ_cons]
      exact ih k (by simpa using hk) (fun i hi => by have := h (i + 1) (by omega); simpa using this)
theorem strip_drop {xs : List Nat} {k : Nat} (hk : k < xs.length) (h : ∀ i, i < k → xs.getD i 0 = 0) (hx : xs.getD k 0 ≠ 0) : strip xs = xs.drop k := by
  unfold strip
  rw [drop_zeros xs k (by omega) h, List.drop_eq_getElem_cons hk]
  have : xs[k] ≠ 0 := by rw [List.getD_eq_getElem?_getD, List.getElem?_eq_getElem hk] at hx; exact hx
  rw [List.dropWhile_cons, if_neg (by simpa using this)]
theorem strip_none {xs : List Nat} (h : ∀ i, i < xs.length → xs.getD i 0 = 0) : strip xs = [0] := by
  unfold strip
  rw [drop_zeros xs xs.length (Nat.le_refl _) h, List.drop_length]
  rfl
theorem info3i : (Tryz.prog.info? 3).map (fun i => (i.zero, i.size, i.bytes)) = some (some (.int .i64 0), 1, 8) := by kernel_rfl
/-- Block g is just these whole numbers. -/
def IBlk (w : World) (g : Nat) (xs : List Nat) : Prop := Blk w g 3 (nums .i64 (ints xs)).toArray
theorem IBlk.cell {w : World} {g : Nat} {xs : List Nat} (h : IBlk w g xs) (i : Nat) (hi : i < xs.length) : w.cell? ⟨g, i, none⟩ = some (.int .i64 ((xs.getD i 0 : Nat) : Int)) := by
  have := Blk.ucell h (i : Int) (by omega) (by rw [ints_len]; omega)
  rw [Int.toNat_natCast] at this
  rw [this, ← ints_get]
  unfold rd
  rw [Int.toNat_natCast]
theorem IBlk.set {w : World} {g : Nat} {xs : List Nat} (h : IBlk w g xs) (i v : Nat) : IBlk (w.setCell ⟨g, i, none⟩ (.int .i64 (v : Int))) g (xs.set i v) := by
  have := Blk.uset h i (v : Int)
  unfold IBlk
  rw [show ints (xs.set i v) = (ints xs).set i (v : Int) from by simp [ints, List.map_set]]
  exact this
/-- The numbers xs from the place o of block g on. -/
def IRow (w : World) (g o : Nat) (xs : List Nat) : Prop := ∃ ys, IBlk w g ys ∧ o + xs.length ≤ ys.length ∧ ∀ i, i < xs.length → ys.getD (o + i) 0 = xs.getD i 0
theorem IRow.at_ {w : World} {g o : Nat} {xs : List Nat} (h : IRow w g o xs) (i : Nat) (hi : i < xs.length) : w.cell? ⟨g, o + i, none⟩ = some (.int .i64 ((xs.getD i 0 : Nat) : Int)) := by
  obtain ⟨ys, h1, h2, h3⟩ := h
  rw [h1.cell (o + i) (by omega), h3 i hi]
theorem IRow.whole {w : World} {g : Nat} {xs : List Nat} (h : IBlk w g xs) : IRow w g 0 xs := ⟨xs, h, by omega, fun i _ => by rw [Nat.zero_add]⟩
theorem IRow.drop {w : World} {g o : Nat} {xs : List Nat} (h : IRow w g o xs) (k : Nat) (hk : k ≤ xs.length) : IRow w g (o + k) (xs.drop k) := by
  obtain ⟨ys, h1, h2, h3⟩ := h
  refine ⟨ys, h1, by rw [List.length_drop]; omega, fun i hi => ?_⟩
  rw [List.length_drop] at hi
  rw [Nat.add_assoc, h3 (k + i) (by omega), List.getD_eq_getElem?_getD, List.getD_eq_getElem?_getD, List.getElem?_drop]
theorem IRow.move {w w' : World} {g o : Nat} {xs : List Nat} (h : IRow w g o xs) (hm : w'.heap[g]? = w.heap[g]?) : IRow w' g o xs := by
  obtain ⟨ys, h1, h2, h3⟩ := h
  exact ⟨ys, hm.trans h1, h2, h3⟩
theorem IRow.lt {w : World} {g o : Nat} {xs : List Nat} (h : IRow w g o xs) : g < w.heap.size := by
  obtain ⟨ys, h1, h2, h3⟩ := h
  exact Blk.lt h1
theorem IRow.below {w w' : World} {g o B : Nat} {xs : List Nat} (h : IRow w g o xs) (hb : Below B w w') (hg : g < B) : IRow w' g o xs := h.move (hb.block g hg)
theorem IRow.ne {w : World} {g o p : Nat} {t : TypeId} {cs : Array Value} {xs : List Nat} (h : IRow w g o xs) (hp : Blk w p t cs) (ht : 3 ≠ t) : g ≠ p := by
  obtain ⟨ys, h1, h2, h3⟩ := h
  exact blk_ne h1 hp ht
theorem cut_int (g o n c k : Nat) (hk : k ≤ n) (hc : k < c) (W : World) : (Instr.slice 93 (.slice (some ⟨g, o, none⟩) n c) (some (.int .i64 (k : Int))) none none).run Tryz.prog W = .ok (.slice (some ⟨g, o + k, none⟩) (n - k) (c - k)) W := by
  obtain ⟨i, hi, hz, hs, hb⟩ := info_parts info3i
  have hel : Tryz.prog.elem 93 = 3 := by simp [Program.elem, Tryz.underlying93]
  have hu : Tryz.prog.underlying 93 = some (.slice (Tryz.prog.elem 93)) := by rw [hel]; exact Tryz.underlying93
  rw [run_slice_l W 93 (some ⟨g, o, none⟩) n c hu .i64 (k : Int) (Int.natCast_nonneg _) (by omega), hel]
  have e : (⟨g, o, none⟩ : Addr).add k = ⟨g, o + k, none⟩ := by
    unfold Addr.add
    by_cases h : k = 0
    · subst h; simp
    · simp [h]
  simp [sizeOf, typeInfo, hi, hs, sliced, Result.andThen, show ¬ c = k by omega, e]
/-- A polynomial at q over the field at gf: its coefficients, the highest first. -/
def PolyAt (w : World) (q gf : Nat) (xs : List Nat) : Prop := ∃ g o c, Blk w q 253 #[.pointer (some ⟨gf, 0, none⟩), .slice (some ⟨g, o, none⟩) xs.length c] ∧ xs.length ≤ c ∧ IRow w g o xs ∧ xs ≠ []
theorem PolyAt.below {w w' : World} {q gf B : Nat} {xs : List Nat} (h : PolyAt w q gf xs) (hb : Below B w w') (hB : w.heap.size ≤ B) : PolyAt w' q gf xs := by
  obtain ⟨g, o, c, h1, h2, h3, h4⟩ := h
  exact ⟨g, o, c, h1.below hb (by have := h1.lt; omega), h2, h3.below hb (by have := h3.lt; omega), h4⟩
theorem PolyAt.upd {w w' : World} {q gf p : Nat} {t : TypeId} {cs : Array Value} {xs : List Nat} (h : PolyAt w q gf xs) (hu : Upd w w' p) (hp : Blk w p t cs) (h3 : 3 ≠ t) (h4 : 253 ≠ t) : PolyAt w' q gf xs := by
  obtain ⟨g, o, c, k1, k2, k3, k4⟩ := h
  exact ⟨g, o, c, hu.blk k1 (blk_ne k1 hp h4), k2, k3.move (hu.block g k3.lt (k3.ne hp h3)), k4⟩
def NewPoly (w : World) (gf : Nat) (xs : List Nat) (e : Ending) (w' : World) : Prop := ∃ q, e = .returned (.tuple #[.pointer (some ⟨q, 0, none⟩), .nilIface]) ∧ w.heap.size ≤ q ∧ PolyAt w' q gf xs ∧ Below w.heap.size w w'
theorem newPoly_lead (w : World) (gf g o c : Nat) (xs : List Nat) (hr : IRow w g o xs) (hc : xs.length ≤ c) (h0 : xs ≠ []) (h1 : xs.length = 1 ∨ xs.getD 0 0 ≠ 0) (hl : xs.length ≤ 100000) :
    Calls Tryz.prog 146 #[.pointer (some ⟨gf, 0, none⟩), .slice (some ⟨g, o, none⟩) xs.length c] w (NewPoly w gf xs) := by
  have hpos : 0 < xs.length := by cases xs with | nil => exact absurd rfl h0 | cons _ _ => simp
  have k0 : w.cell? ⟨g, o, none⟩ = _ := hr.at_ 0 hpos
  obtain ⟨n, hn⟩ : ∃ n, xs.length = n := ⟨_, rfl⟩
  obtain ⟨x, hx⟩ : ∃ x, xs.getD 0 0 = x := ⟨_, rfl⟩
  rw [hx] at k0 h1
  have ka : ∀ ob, (w.alloc ob).cell? ⟨g, o, none⟩ = some (.int .i64 (x : Int)) := fun ob => pw_cell_below (below_alloc (Below.refl _ _) ob) k0
  rw [hn] at hc hl hpos h1
  have HR := Aside0.mk hr
  have HN := Aside0.mk hn
  have hfin : ∀ w', w' = w.alloc (.cells #[.pointer (some ⟨gf, 0, none⟩), .slice (some ⟨g, o, none⟩) n c] 253) → NewPoly w gf xs (.returned (.tuple #[.pointer (some ⟨w.heap.size, 0, none⟩), .nilIface])) w' := by
    rintro w' rfl
    exact ⟨_, rfl, Nat.le_refl _, ⟨g, o, c, by rw [HN.out]; exact Blk.new _ _ _, by rw [HN.out]; exact hc, HR.out.below (below_alloc (Below.refl _ _) _) HR.out.lt, h0⟩, below_alloc (Below.refl _ _) _⟩
  have HF := Aside0.mk hfin
  rw [hn]
  clear hr hn hx hfin
  by_cases h2 : n = 1
  · subst h2
    clear h1
    go_enter Tryz.func146, Tryz.ntmps146
    go_wp2
    go_ret2
    exact HF.out _ rfl
  · have h3 : 1 < n := by omega
    have h4 : x ≠ 0 := by rcases h1 with h | h; exact absurd h h2; exact h
    have h5 : ((x : Int) == 0) = false := by simpa using (fun h : (x : Int) = 0 => h4 (by omega))
    clear h1 h2 h4
    go_enter Tryz.func146, Tryz.ntmps146
    go_wp2
    go_ret2
    exact HF.out _ rfl
theorem newPoly (w : World) (gf g o c : Nat) (xs : List Nat) (hr : IRow w g o xs) (hc : xs.length ≤ c) (h0 : xs ≠ []) (hl : xs.length ≤ 100000) :
    Calls Tryz.prog 146 #[.pointer (some ⟨gf, 0, none⟩), .slice (some ⟨g, o, none⟩) xs.length c] w (NewPoly w gf (strip xs)) := by
  by_cases hlead : xs.length = 1 ∨ xs.getD 0 0 ≠ 0
  · rw [strip_lead hlead h0]
    exact newPoly_lead w gf g o c xs hr hc h0 hlead hl
  · have hpos : 0 < xs.length := by cases xs with | nil => exact absurd rfl h0 | cons _ _ => simp
    have hn1 : 1 < xs.length := by
      have : ¬ xs.length = 1 := fun h => hlead (.inl h)
      omega
    have hz : xs.getD 0 0 = 0 := by
      apply Decidable.byContradiction
      exact fun h => hlead (.inr h)
    have k0 : w.cell? ⟨g, o, none⟩ = _ := hr.at_ 0 hpos
    rw [hz] at k0
    have ka : ∀ ob, (w.alloc ob).cell? ⟨g, o, none⟩ = some (.int .i64 0) := fun ob => pw_cell_below (below_alloc (Below.refl _ _) ob) k0
    obtain ⟨n, hn⟩ : ∃ n, xs.length = n := ⟨_, rfl⟩
    rw [hn] at hc hl hpos hn1
    have HR := Aside0.mk hr
    have HN := Aside0.mk hn
    have HZ := Aside0.mk hz
    have H0 := Aside0.mk h0
    rw [hn]
    clear hr hn hz h0 hlead k0
    go_enter Tryz.func146, Tryz.ntmps146
    go_wp2
    obtain ⟨w1, hw1⟩ : ∃ w1, w1 = w.alloc (.cells #[.pointer (some ⟨gf, 0, none⟩), .slice none 0 0] 253) := ⟨_, rfl⟩
    rw [← hw1]
    obtain ⟨B0, hh⟩ : ∃ B0, B0 = w.heap.size := ⟨_, rfl⟩
    rw [← hh]
    have HBlk := Aside0.mk (show Blk w1 B0 253 #[.pointer (some ⟨gf, 0, none⟩), .slice none 0 0] by rw [hw1, hh]; exact Blk.new _ _ _)
    have HB1 := Aside0.mk (show Below B0 w w1 by rw [hw1, hh]; exact below_alloc (Below.refl _ _) _)
    have HR1 := Aside0.mk (show IRow w1 g o xs by rw [hw1]; exact HR.out.below (below_alloc (Below.refl _ _) _) HR.out.lt)
    have HW := Aside0.mk hw1
    have HH := Aside0.mk hh
    have f1 := HBlk.out.frozen 1
    have c1 : w1.cell? ⟨B0, 1, none⟩ = some (.slice none 0 0) := HBlk.out.cell 1
    clear hw1 hh ka
    go_loop [8] (fun v => ∃ k : Nat, 1 ≤ k ∧ k ≤ n ∧ v = .int .i64 (k : Int) ∧ Aside0 (∀ i, i < k → xs.getD i 0 = 0)) (fun v => (n - intOf v).toNat)
    case atStart => exact ⟨1, by omega, by omega, rfl, ⟨fun i hi => (show i = 0 by omega) ▸ HZ.out⟩⟩
    case round =>
      obtain ⟨k, hk1, hk, rfl, HK⟩ := hrel
      by_cases hlt : k < n
      · have kc := HR1.out.at_ k (by have := HN.out; omega)
        obtain ⟨x, hx⟩ : ∃ x, xs.getD k 0 = x := ⟨_, rfl⟩
        rw [hx] at kc
        by_cases hx0 : x = 0
        · subst hx0
          have HX := Aside0.mk hx
          clear hx
          go_wp2
          go_round
          case rel => exact ⟨k + 1, by omega, by omega, by go_num, ⟨fun i hi => by
            by_cases hik : i = k
            · rw [hik]; exact HX.out
            · exact HK.out i (by omega)⟩⟩
          case measure => simp [intOf]; omega
        · have hb : ((x : Int) == 0) = false := by simpa using (fun h : (x : Int) = 0 => hx0 (by omega))
          have HX := Aside0.mk hx
          have HX0 := Aside0.mk hx0
          have hkn : ((k : Int) == (n : Int)) = false := by simpa using (fun h : (k : Int) = (n : Int) => by omega)
          have hrun := cut_int g o n c k (by omega) (by omega)
          clear hx hx0
          go_wp2
          go_ret2
          have hst := strip_drop (xs := xs) (k := k) (by have := HN.out; omega) HK.out (by rw [HX.out]; exact HX0.out)
          have hlen : (xs.drop k).length = n - k := by rw [List.length_drop, HN.out]
          have hw' : (w1.setCell ⟨B0, 1, none⟩ (.slice (some ⟨g, o + k, none⟩) (n - k) (c - k))) = w.alloc (.cells #[.pointer (some ⟨gf, 0, none⟩), .slice (some ⟨g, o + k, none⟩) (n - k) (c - k)] 253) := by
            rw [HW.out, HH.out, alloc_set]; rfl
          rw [hw', hst, HH.out]
          refine ⟨w.heap.size, rfl, Nat.le_refl _, ⟨g, o + k, c - k, by rw [hlen]; exact Blk.new _ _ _, by rw [hlen]; omega, ?_, ?_⟩, below_alloc (Below.refl _ _) _⟩
          · exact (HR.out.drop k (by have := HN.out; omega)).below (below_alloc (Below.refl _ _) _) HR.out.lt
          · intro h0
            rw [h0] at hlen
            simp at hlen
            omega
      · have : k = n := by omega
        subst this
        have c1a : ∀ o, (w1.alloc o).cell? ⟨B0, 1, none⟩ = some (.slice none 0 0) := fun o => (HBlk.out.alloc o).cell 1
        have f1a : ∀ o, (w1.alloc o).frozen? ⟨B0, 1, none⟩ = false := fun o => (HBlk.out.alloc o).frozen 1
        go_wp2
        go_ret2
        have hst := strip_none (xs := xs) (fun i hi => HK.out i (by have := HN.out; omega))
        rw [hst]
        obtain ⟨w2, hw2⟩ : ∃ w2, w2 = w1.alloc (.cells #[.int .i64 0] 3) := ⟨_, rfl⟩
        have hb2 : Below B0 w w2 := by rw [hw2, HH.out]; have h1 := HB1.out; rw [HH.out] at h1; exact below_alloc h1 _
        have hs1 : w1.heap.size = B0 + 1 := by rw [HW.out, HH.out]; simp
        have k2 : Blk w2 B0 253 #[.pointer (some ⟨gf, 0, none⟩), .slice none 0 0] := by rw [hw2]; exact HBlk.out.alloc _
        have k3 : IBlk w2 w1.heap.size [0] := by rw [hw2]; exact Blk.new _ _ _
        rw [← hw2]
        have hu := Turn.set w2 B0 1 (.slice (some ⟨w1.heap.size, 0, none⟩) 1 1)
        refine ⟨B0, rfl, by rw [HH.out]; exact Nat.le_refl _, ⟨w1.heap.size, 0, 1, ?_, Nat.le_refl _, ?_, by simp⟩, ?_⟩
        · exact blk_set k2 1 _
        · exact IRow.whole (hu.blk k3 (by omega))
        · rw [← HH.out]
          exact hb2.trans (hu.below (Nat.le_refl _))

/-! ### Fields of 2^m elements, as numbers below 2^m: sums are xor, products are those of polynomials over two elements, less multiples of one of degree m -/
structure Fld (m p : Nat) : Prop where
  one : 1 ≤ m
  lo : 2 ^ m ≤ p
  hi : p < 2 ^ (m + 1)
section
variable {m p : Nat}
/-- Twice an element. -/
def gl (m p x : Nat) : Nat := (2 * x) ^^^ (if x.testBit (m - 1) then p else 0)
theorem lt_of_bits (x m : Nat) (h : ∀ i, m ≤ i → x.testBit i = false) : x < 2 ^ m := Nat.lt_pow_two_of_testBit x h
theorem bit_of_lt (x m i : Nat) (h : x < 2 ^ m) (hi : m ≤ i) : x.testBit i = false := Nat.testBit_lt_two_pow (Nat.lt_of_lt_of_le h (Nat.pow_le_pow_right (by omega) hi))
theorem xor_lt (x y m : Nat) (hx : x < 2 ^ m) (hy : y < 2 ^ m) : x ^^^ y < 2 ^ m := Nat.xor_lt_two_pow hx hy
theorem two_bit (x i : Nat) : (2 * x).testBit i = (decide (0 < i) && x.testBit (i - 1)) := by
  cases i with
  | zero => simp
  | succ i => simp [Nat.testBit_succ]
theorem two_xor (x y : Nat) : 2 * (x ^^^ y) = (2 * x) ^^^ (2 * y) := by
  apply Nat.eq_of_testBit_eq
  intro i
  simp only [Nat.testBit_xor, two_bit]
  cases decide (0 < i) <;> simp
theorem xor_left (a b c : Nat) : a ^^^ (b ^^^ c) = b ^^^ (a ^^^ c) := by rw [← Nat.xor_assoc, Nat.xor_comm a b, Nat.xor_assoc]
theorem xor_mid (a b c d : Nat) : (a ^^^ b) ^^^ (c ^^^ d) = (a ^^^ c) ^^^ (b ^^^ d) := by
  rw [Nat.xor_assoc, Nat.xor_assoc, xor_left b c d]
theorem gl_add (x y : Nat) : gl m p (x ^^^ y) = gl m p x ^^^ gl m p y := by
  unfold gl
  rw [two_xor, Nat.testBit_xor]
  have hp : ∀ a b : Bool, (if (a ^^ b) = true then p else 0) = (if a = true then p else 0) ^^^ (if b = true then p else 0) := by
    intro a b
    cases a <;> cases b <;> simp
  rw [hp, xor_mid]
theorem gl_zero : gl m p 0 = 0 := by unfold gl; simp
theorem top_bit (F : Fld m p) (i : Nat) (hi : m ≤ i) : p.testBit i = decide (i = m) := by
  by_cases h : i = m
  · subst h
    rw [decide_eq_true rfl]
    have h1 : p = 2 ^ i + (p - 2 ^ i) := by have := F.lo; omega
    have h2 : p - 2 ^ i < 2 ^ i := by have := F.hi; rw [Nat.pow_succ] at this; omega
    rw [h1, Nat.testBit_two_pow_add_eq, Nat.testBit_lt_two_pow h2]; rfl
  · rw [decide_eq_false h]
    exact bit_of_lt p (m + 1) i F.hi (by omega)
theorem gl_lt (F : Fld m p) (x : Nat) (hx : x < 2 ^ m) : gl m p x < 2 ^ m := by
  apply lt_of_bits
  intro i hi
  have h1 := F.one
  unfold gl
  rw [Nat.testBit_xor, two_bit]
  by_cases hm : i = m
  · subst hm
    rw [decide_eq_true (by omega), Bool.true_and]
    by_cases hb : x.testBit (i - 1) = true
    · rw [if_pos hb, hb, top_bit F i (Nat.le_refl _)]; simp
    · rw [if_neg hb]; simp at hb; simp [hb]
  · rw [bit_of_lt x m (i - 1) hx (by omega)]
    by_cases hb : x.testBit (m - 1) = true
    · rw [if_pos hb, top_bit F i hi]; simp [hm]
    · rw [if_neg hb]; simp
/-- Twice, so often. -/
def glN (m p : Nat) : Nat → Nat → Nat
  | 0, x => x
  | k + 1, x => gl m p (glN m p k x)
theorem glN_add (k x y : Nat) : glN m p k (x ^^^ y) = glN m p k x ^^^ glN m p k y := by
  induction k with
  | zero => rfl
  | succ k ih => rw [glN, ih, gl_add]; rfl
theorem glN_zero (k : Nat) : glN m p k 0 = 0 := by
  induction k with
  | zero => rfl
  | succ k ih => rw [glN, ih, gl_zero]
theorem glN_lt (F : Fld m p) (k x : Nat) (hx : x < 2 ^ m) : glN m p k x < 2 ^ m := by
  induction k with
  | zero => exact hx
  | succ k ih => exact gl_lt F _ ih
theorem glN_glN (j k x : Nat) : glN m p j (glN m p k x) = glN m p (j + k) x := by
  induction j with
  | zero => rw [Nat.zero_add]; rfl
  | succ j ih => rw [Nat.succ_add, glN, glN, ih]
theorem glN_gl (k x : Nat) : glN m p k (gl m p x) = gl m p (glN m p k x) := by
  have := glN_glN (m := m) (p := p) k 1 x
  exact this
theorem glN_pow (i : Nat) (hi : i < m) : glN m p i 1 = 2 ^ i := by
  induction i with
  | zero => rfl
  | succ i ih =>
    rw [glN, ih (by omega), gl, Nat.testBit_two_pow_of_ne (by omega), if_neg (by simp), Nat.xor_zero, Nat.pow_succ, Nat.mul_comm]
/-- The product. -/
def gm' (m p : Nat) : Nat → Nat → Nat → Nat
  | 0, _, _ => 0
  | k + 1, a, b => gm' m p k a b ^^^ (if b.testBit k then glN m p k a else 0)
def gm (m p a b : Nat) : Nat := gm' m p m a b
theorem gm'_left (k a a' b : Nat) : gm' m p k (a ^^^ a') b = gm' m p k a b ^^^ gm' m p k a' b := by
  induction k with
  | zero => simp [gm']
  | succ k ih =>
    rw [gm', gm', gm', ih, xor_mid]
    congr 1
    by_cases h : b.testBit k = true
    · rw [if_pos h, if_pos h, if_pos h, glN_add]
    · rw [if_neg h, if_neg h, if_neg h]; simp
theorem gm'_right (k a b b' : Nat) : gm' m p k a (b ^^^ b') = gm' m p k a b ^^^ gm' m p k a b' := by
  induction k with
  | zero => simp [gm']
  | succ k ih =>
    rw [gm', gm', gm', ih, xor_mid, Nat.testBit_xor]
    congr 1
    cases b.testBit k <;> cases b'.testBit k <;> simp
theorem gm_left (a a' b : Nat) : gm m p (a ^^^ a') b = gm m p a b ^^^ gm m p a' b := gm'_left m a a' b
theorem gm_right (a b b' : Nat) : gm m p a (b ^^^ b') = gm m p a b ^^^ gm m p a b' := gm'_right m a b b'
theorem gm'_lt (F : Fld m p) (k a b : Nat) (ha : a < 2 ^ m) : gm' m p k a b < 2 ^ m := by
  induction k with
  | zero => exact Nat.two_pow_pos m
  | succ k ih =>
    rw [gm']
    refine xor_lt _ _ _ ih ?_
    split
    · exact glN_lt F k a ha
    · exact Nat.two_pow_pos m
theorem gm_lt (F : Fld m p) (a b : Nat) (ha : a < 2 ^ m) : gm m p a b < 2 ^ m := gm'_lt F m a b ha
theorem gm'_zero_right (k a : Nat) : gm' m p k a 0 = 0 := by
  induction k with
  | zero => rfl
  | succ k ih => rw [gm', ih]; simp
theorem gm_zero_right (a : Nat) : gm m p a 0 = 0 := gm'_zero_right m a
theorem gm'_zero_left (k b : Nat) : gm' m p k 0 b = 0 := by
  induction k with
  | zero => rfl
  | succ k ih => rw [gm', ih, glN_zero]; simp
theorem gm_zero_left (b : Nat) : gm m p 0 b = 0 := gm'_zero_left m b
theorem gm'_pow (k a i : Nat) : gm' m p k a (2 ^ i) = if i < k then glN m p i a else 0 := by
  induction k with
  | zero => rfl
  | succ k ih =>
    rw [gm', ih]
    by_cases h : i = k
    · subst h
      rw [if_neg (by omega), Nat.testBit_two_pow_self, if_pos rfl, if_pos (by omega), Nat.zero_xor]
    · rw [Nat.testBit_two_pow_of_ne h]
      simp only [Bool.false_eq_true, if_false, Nat.xor_zero]
      by_cases h2 : i < k
      · rw [if_pos h2, if_pos (by omega)]
      · rw [if_neg h2, if_neg (by omega)]
theorem gm_pow (a i : Nat) (hi : i < m) : gm m p a (2 ^ i) = glN m p i a := by unfold gm; rw [gm'_pow, if_pos hi]
theorem gm_one (F : Fld m p) (a : Nat) : gm m p a 1 = a := by have := gm_pow (p := p) a 0 (m := m) F.one; exact this
/-- Two sums-keeping maps that agree on the powers of two agree. -/
theorem lin_ext (f g : Nat → Nat) (hf : ∀ x y, f (x ^^^ y) = f x ^^^ f y) (hg : ∀ x y, g (x ^^^ y) = g x ^^^ g y) (h0 : f 0 = g 0) (m : Nat) (hp : ∀ i, i < m → f (2 ^ i) = g (2 ^ i)) : ∀ x, x < 2 ^ m → f x = g x := by
  induction m with
  | zero => intro x hx; have : x = 0 := by have : (2 : Nat) ^ 0 = 1 := rfl; omega
            rw [this, h0]
  | succ m ih =>
    intro x hx
    by_cases h : x < 2 ^ m
    · exact ih (fun i hi => hp i (by omega)) x h
    · have hx2 : x = 2 ^ m ^^^ (x ^^^ 2 ^ m) := by rw [Nat.xor_comm x, ← Nat.xor_assoc, Nat.xor_self, Nat.zero_xor]
      have hlow : x ^^^ 2 ^ m < 2 ^ m := by
        apply lt_of_bits
        intro i hi
        rw [Nat.testBit_xor]
        by_cases he : i = m
        · subst he
          have h1 : x = 2 ^ i + (x - 2 ^ i) := by omega
          have h2 : x - 2 ^ i < 2 ^ i := by rw [Nat.pow_succ] at hx; omega
          rw [h1, Nat.testBit_two_pow_add_eq, Nat.testBit_lt_two_pow h2, Nat.testBit_two_pow_self]; rfl
        · rw [bit_of_lt x (m + 1) i hx (by omega), Nat.testBit_two_pow_of_ne (by omega)]; rfl
      rw [hx2, hf, hg, hp m (by omega), ih (fun i hi => hp i (by omega)) _ hlow]
theorem gm_comm (F : Fld m p) (a b : Nat) (ha : a < 2 ^ m) (hb : b < 2 ^ m) : gm m p a b = gm m p b a := by
  refine lin_ext (fun x => gm m p x b) (fun x => gm m p b x) (fun x y => gm_left x y b) (fun x y => gm_right b x y) ?_ m (fun j hj => ?_) a ha
  · show gm m p 0 b = gm m p b 0
    rw [gm_zero_left, gm_zero_right]
  · show gm m p (2 ^ j) b = gm m p b (2 ^ j)
    refine lin_ext (fun x => gm m p (2 ^ j) x) (fun x => gm m p x (2 ^ j)) (fun x y => gm_right _ x y) (fun x y => gm_left x y _) ?_ m (fun i hi => ?_) b hb
    · show gm m p (2 ^ j) 0 = gm m p 0 (2 ^ j)
      rw [gm_zero_left, gm_zero_right]
    · show gm m p (2 ^ j) (2 ^ i) = gm m p (2 ^ i) (2 ^ j)
      rw [gm_pow _ i hi, gm_pow _ j hj, ← glN_pow (p := p) j hj, ← glN_pow (p := p) i hi, glN_glN, glN_glN, Nat.add_comm]
theorem gm'_gl (k a b : Nat) : gm' m p k (gl m p a) b = gl m p (gm' m p k a b) := by
  induction k with
  | zero => rw [gm', gm', gl_zero]
  | succ k ih =>
    rw [gm', gm', ih, gl_add]
    congr 1
    by_cases h : b.testBit k = true
    · rw [if_pos h, if_pos h, glN_gl]
    · rw [if_neg h, if_neg h, gl_zero]
theorem gm_gl (a b : Nat) : gm m p (gl m p a) b = gl m p (gm m p a b) := gm'_gl m a b
theorem gm_glN (k a b : Nat) : gm m p (glN m p k a) b = glN m p k (gm m p a b) := by
  induction k with
  | zero => rfl
  | succ k ih => rw [glN, gm_gl, ih]; rfl
theorem gm_assoc (F : Fld m p) (a b c : Nat) (ha : a < 2 ^ m) (hb : b < 2 ^ m) (hc : c < 2 ^ m) : gm m p (gm m p a b) c = gm m p a (gm m p b c) := by
  refine lin_ext (fun x => gm m p (gm m p a b) x) (fun x => gm m p a (gm m p b x)) (fun x y => gm_right _ x y) (fun x y => ?_) ?_ m (fun k hk => ?_) c hc
  · show gm m p a (gm m p b (x ^^^ y)) = _
    rw [gm_right, gm_right]
  · show gm m p (gm m p a b) 0 = gm m p a (gm m p b 0)
    rw [gm_zero_right, gm_zero_right, gm_zero_right]
  · show gm m p (gm m p a b) (2 ^ k) = gm m p a (gm m p b (2 ^ k))
    rw [gm_pow _ k hk, gm_pow _ k hk, gm_comm F a _ ha (glN_lt F k b hb), gm_glN, gm_comm F b a hb ha]
end

/-! ### Polynomials over such a field, the highest coefficient first; words with their error correction are a multiple of the generator -/
section
variable {m p : Nat}
def AllLt (m : Nat) (l : List Nat) : Prop := ∀ x ∈ l, x < 2 ^ m
/-- The value at r. -/
def pevF (m p r : Nat) : Nat → List Nat → Nat
  | a, [] => a
  | a, c :: l => pevF m p r (gm m p a r ^^^ c) l
def pev (m p r : Nat) (l : List Nat) : Nat := pevF m p r 0 l
def gpow (m p r : Nat) : Nat → Nat
  | 0 => 1
  | n + 1 => gm m p (gpow m p r n) r
theorem gpow_lt (F : Fld m p) (r n : Nat) (hr : r < 2 ^ m) : gpow m p r n < 2 ^ m := by
  induction n with
  | zero => exact Nat.lt_of_lt_of_le (show 1 < 2 ^ 1 by decide) (Nat.pow_le_pow_right (by omega) F.one)
  | succ n ih => exact gm_lt F _ _ ih
theorem pevF_eq (F : Fld m p) (r : Nat) (hr : r < 2 ^ m) (l : List Nat) : ∀ a, a < 2 ^ m → AllLt m l → pevF m p r a l = gm m p a (gpow m p r l.length) ^^^ pev m p r l := by
  induction l with
  | nil => intro a ha _; show a = gm m p a 1 ^^^ 0; rw [gm_one F, Nat.xor_zero]
  | cons c l ih =>
    intro a ha hl
    have hc : c < 2 ^ m := hl c (by simp)
    have hl2 : AllLt m l := fun x hx => hl x (by simp [hx])
    have hg := gpow_lt F r l.length hr
    unfold pev
    rw [pevF, pevF, ih _ (xor_lt _ _ _ (gm_lt F a r ha) hc) hl2, gm_zero_left, Nat.zero_xor, ih c hc hl2, gm_left, Nat.xor_assoc, List.length_cons, gpow, gm_comm F (gpow m p r l.length) r hg hr, ← gm_assoc F a r _ ha hr hg]
theorem pev_append (F : Fld m p) (r : Nat) (hr : r < 2 ^ m) (l k : List Nat) (hl : AllLt m l) (hk : AllLt m k) : pev m p r (l ++ k) = gm m p (pev m p r l) (gpow m p r k.length) ^^^ pev m p r k := by
  have h : ∀ (l : List Nat) a, pevF m p r a (l ++ k) = pevF m p r (pevF m p r a l) k := by
    intro l
    induction l with
    | nil => intro a; rfl
    | cons c l ih => intro a; exact ih _
  have hlt : ∀ (l : List Nat) a, a < 2 ^ m → AllLt m l → pevF m p r a l < 2 ^ m := by
    intro l
    induction l with
    | nil => intro a ha _; exact ha
    | cons c l ih => intro a ha hl; exact ih _ (xor_lt _ _ _ (gm_lt F a r ha) (hl c (by simp))) (fun x hx => hl x (by simp [hx]))
  unfold pev
  rw [h l 0, pevF_eq F r hr k _ (hlt l 0 (Nat.two_pow_pos m) hl) hk]
  rfl
theorem pev_lt (F : Fld m p) (r : Nat) (l : List Nat) (hl : AllLt m l) : pev m p r l < 2 ^ m := by
  have hlt : ∀ (l : List Nat) a, a < 2 ^ m → AllLt m l → pevF m p r a l < 2 ^ m := by
    intro l
    induction l with
    | nil => intro a ha _; exact ha
    | cons c l ih => intro a ha hl; exact ih _ (xor_lt _ _ _ (gm_lt F a r ha) (hl c (by simp))) (fun x hx => hl x (by simp [hx]))
  exact hlt l 0 (Nat.two_pow_pos m) hl
theorem pev_cons (F : Fld m p) (r : Nat) (hr : r < 2 ^ m) (c : Nat) (l : List Nat) (hc : c < 2 ^ m) (hl : AllLt m l) : pev m p r (c :: l) = gm m p c (gpow m p r l.length) ^^^ pev m p r l := by
  unfold pev
  rw [pevF, gm_zero_left, Nat.zero_xor]
  exact pevF_eq F r hr l c hc hl
theorem pev_one (r c : Nat) : pev m p r [c] = c := by unfold pev; rw [pevF, pevF, gm_zero_left, Nat.zero_xor]
theorem pev_snoc (F : Fld m p) (r : Nat) (hr : r < 2 ^ m) (l : List Nat) (c : Nat) (hl : AllLt m l) (hc : c < 2 ^ m) : pev m p r (l ++ [c]) = gm m p (pev m p r l) r ^^^ c := by
  rw [pev_append F r hr l [c] hl (by intro x hx; rw [List.mem_singleton.1 hx]; exact hc), pev_one]
  congr 1
  show gm m p _ (gm m p 1 r) = _
  rw [gm_comm F 1 r (gpow_lt F r 0 hr) hr, gm_one F]
/-- Sums, word by word. -/
theorem pev_xor (F : Fld m p) (r : Nat) (hr : r < 2 ^ m) : ∀ (l k : List Nat), l.length = k.length → AllLt m l → AllLt m k → pev m p r (List.zipWith (· ^^^ ·) l k) = pev m p r l ^^^ pev m p r k := by
  intro l
  induction l with
  | nil => intro k h _ _; have : k = [] := List.eq_nil_of_length_eq_zero h.symm; subst this; simp [pev, pevF]
  | cons a l ih =>
    intro k h hl hk
    cases k with
    | nil => simp at h
    | cons b k =>
      have ha : a < 2 ^ m := hl a (by simp)
      have hb : b < 2 ^ m := hk b (by simp)
      have hl2 : AllLt m l := fun x hx => hl x (by simp [hx])
      have hk2 : AllLt m k := fun x hx => hk x (by simp [hx])
      have h2 : l.length = k.length := by simpa using h
      have hz : AllLt m (List.zipWith (· ^^^ ·) l k) := by
        intro x hx
        obtain ⟨i, hi, rfl⟩ := List.mem_iff_getElem.1 hx
        rw [List.getElem_zipWith]
        exact xor_lt _ _ _ (hl2 _ (List.getElem_mem _)) (hk2 _ (List.getElem_mem _))
      rw [List.zipWith_cons_cons, pev_cons F r hr _ _ (xor_lt _ _ _ ha hb) hz, pev_cons F r hr a l ha hl2, pev_cons F r hr b k hb hk2, ih k h2 hl2 hk2, gm_left, List.length_zipWith, ← h2, Nat.min_self, xor_mid]
/-- Each word times f. -/
theorem pev_times (F : Fld m p) (r f : Nat) (hr : r < 2 ^ m) (hf : f < 2 ^ m) : ∀ (l : List Nat), AllLt m l → pev m p r (l.map fun x => gm m p x f) = gm m p (pev m p r l) f := by
  intro l
  induction l with
  | nil => intro _; show 0 = gm m p 0 f; rw [gm_zero_left]
  | cons a l ih =>
    intro hl
    have ha : a < 2 ^ m := hl a (by simp)
    have hl2 : AllLt m l := fun x hx => hl x (by simp [hx])
    have hm : AllLt m (l.map fun x => gm m p x f) := by
      intro x hx
      obtain ⟨y, hy, rfl⟩ := List.mem_map.1 hx
      exact gm_lt F y f (hl2 y hy)
    have hg := gpow_lt F r l.length hr
    rw [List.map_cons, pev_cons F r hr _ _ (gm_lt F a f ha) hm, pev_cons F r hr a l ha hl2, ih hl2, List.length_map, gm_left]
    congr 1
    rw [gm_assoc F a f _ ha hf hg, gm_comm F f _ hf hg, ← gm_assoc F a _ f ha hg hf]
/-- The next rest of a division: b comes in. -/
def rstep (m p : Nat) (g s : List Nat) (b : Nat) : List Nat := List.zipWith (· ^^^ ·) (s.tail ++ [0]) (g.map fun x => gm m p x (b ^^^ s.headD 0))
theorem rstep_len (g s : List Nat) (b : Nat) (h : s.length = g.length) (h0 : 0 < g.length) : (rstep m p g s b).length = g.length := by
  unfold rstep
  rw [List.length_zipWith, List.length_append, List.length_tail, List.length_map]
  simp; omega
theorem rstep_lt (F : Fld m p) (g s : List Nat) (b : Nat) (hg : AllLt m g) (hs : AllLt m s) : AllLt m (rstep m p g s b) := by
  intro x hx
  unfold rstep at hx
  obtain ⟨i, hi, rfl⟩ := List.mem_iff_getElem.1 hx
  rw [List.getElem_zipWith]
  refine xor_lt _ _ _ ?_ ?_
  · have := List.getElem_mem (l := s.tail ++ [0]) (n := i) (by rw [List.length_zipWith] at hi; omega)
    rcases List.mem_append.1 this with h | h
    · exact hs _ (List.mem_of_mem_tail h)
    · rw [List.mem_singleton.1 h]; exact Nat.two_pow_pos m
  · rw [List.getElem_map]
    exact gm_lt F _ _ (hg _ (List.getElem_mem _))
theorem rstep_pev (F : Fld m p) (r : Nat) (hr : r < 2 ^ m) (g s : List Nat) (b : Nat) (hb : b < 2 ^ m) (hg : AllLt m g) (hs : AllLt m s) (h : s.length = g.length) (h0 : 0 < g.length) (hroot : pev m p r g = gpow m p r g.length) :
    pev m p r (rstep m p g s b) = gm m p (pev m p r s) r ^^^ gm m p b (gpow m p r g.length) := by
  cases s with
  | nil => simp at h; omega
  | cons a t =>
    have ha : a < 2 ^ m := hs a (by simp)
    have ht : AllLt m t := fun x hx => hs x (by simp [hx])
    have hf : b ^^^ a < 2 ^ m := xor_lt _ _ _ hb ha
    have hgr := gpow_lt F r g.length hr
    have ht0 : AllLt m (t ++ [0]) := by
      intro x hx
      rcases List.mem_append.1 hx with h | h
      · exact ht x h
      · rw [List.mem_singleton.1 h]; exact Nat.two_pow_pos m
    have hgm : AllLt m (g.map fun x => gm m p x (b ^^^ a)) := by
      intro x hx
      obtain ⟨y, hy, rfl⟩ := List.mem_map.1 hx
      exact gm_lt F y _ (hg y hy)
    have htl : t.length + 1 = g.length := by simpa using h
    have hgt := gpow_lt F r t.length hr
    have hpt := pev_lt F r t ht
    show pev m p r (List.zipWith (· ^^^ ·) (t ++ [0]) (g.map fun x => gm m p x (b ^^^ a))) = _
    rw [pev_xor F r hr _ _ (by rw [List.length_append, List.length_map]; simpa using htl) ht0 hgm, pev_snoc F r hr t 0 ht (Nat.two_pow_pos m), Nat.xor_zero, pev_times F r _ hr hf g hg, hroot, pev_cons F r hr a t ha ht, gm_left]
    rw [gm_assoc F a _ r ha hgt hr]
    have e : gm m p (gpow m p r t.length) r = gpow m p r g.length := by rw [← htl]; rfl
    rw [e, gm_comm F _ _ hgr hf, gm_left]
    rw [Nat.xor_comm (gm m p a _) (gm m p (pev m p r t) r), Nat.xor_assoc, Nat.xor_comm (gm m p b _) (gm m p a _)]
def rest (m p : Nat) (g : List Nat) : List Nat → List Nat → List Nat
  | s, [] => s
  | s, b :: l => rest m p g (rstep m p g s b) l
theorem rest_facts (F : Fld m p) (r : Nat) (hr : r < 2 ^ m) (g : List Nat) (hg : AllLt m g) (h0 : 0 < g.length) (hroot : pev m p r g = gpow m p r g.length) :
    ∀ (l s pre : List Nat), AllLt m l → AllLt m s → AllLt m pre → s.length = g.length → pev m p r s = gm m p (pev m p r pre) (gpow m p r g.length) →
      pev m p r (rest m p g s l) = gm m p (pev m p r (pre ++ l)) (gpow m p r g.length) ∧ (rest m p g s l).length = g.length ∧ AllLt m (rest m p g s l) := by
  have hgr := gpow_lt F r g.length hr
  intro l
  induction l with
  | nil => intro s pre _ hs _ hl he; rw [List.append_nil]; exact ⟨he, hl, hs⟩
  | cons b l ih =>
    intro s pre hbl hs hp hl he
    have hb : b < 2 ^ m := hbl b (by simp)
    have hpp := pev_lt F r pre hp
    have hpb : AllLt m (pre ++ [b]) := by
      intro x hx
      rcases List.mem_append.1 hx with h | h
      · exact hp x h
      · rw [List.mem_singleton.1 h]; exact hb
    have := ih (rstep m p g s b) (pre ++ [b]) (fun x hx => hbl x (by simp [hx])) (rstep_lt F g s b hg hs) hpb (rstep_len g s b hl h0) (by
      rw [rstep_pev F r hr g s b hb hg hs hl h0 hroot, he, pev_snoc F r hr pre b hp hb, gm_left]
      congr 1
      rw [gm_assoc F _ _ r hpp hgr hr, gm_comm F _ r hgr hr, ← gm_assoc F _ r _ hpp hr hgr])
    rw [List.append_assoc] at this
    exact this
/-- Data with the rest behind it vanishes at the generator's roots. -/
theorem code_root (F : Fld m p) (r : Nat) (hr : r < 2 ^ m) (g data : List Nat) (hg : AllLt m g) (h0 : 0 < g.length) (hd : AllLt m data) (hroot : pev m p r g = gpow m p r g.length) :
    pev m p r (data ++ rest m p g (List.replicate g.length 0) data) = 0 := by
  have hz : AllLt m (List.replicate g.length 0) := by intro x hx; rw [List.eq_of_mem_replicate hx]; exact Nat.two_pow_pos m
  have hz0 : ∀ n, pev m p r (List.replicate n 0) = 0 := by
    intro n
    unfold pev
    induction n with
    | zero => rfl
    | succ n ih => rw [List.replicate_succ, pevF, gm_zero_left, Nat.xor_zero]; exact ih
  obtain ⟨h1, h2, h3⟩ := rest_facts F r hr g hg h0 hroot data (List.replicate g.length 0) [] hd hz (by intro x hx; cases hx) (by simp) (by rw [hz0]; show 0 = gm m p 0 _; rw [gm_zero_left])
  rw [pev_append F r hr data _ hd h3, h1, h2, List.nil_append, Nat.xor_self]
/-- A factor more in the generator: the highest coefficient falls out. -/
def gstep (m p : Nat) (s : List Nat) (root : Nat) : List Nat := List.zipWith (· ^^^ ·) (s.map fun x => gm m p x root) (s.tail ++ [0])
theorem gstep_lt (F : Fld m p) (s : List Nat) (root : Nat) (hs : AllLt m s) : AllLt m (gstep m p s root) := by
  intro x hx
  unfold gstep at hx
  obtain ⟨i, hi, rfl⟩ := List.mem_iff_getElem.1 hx
  rw [List.getElem_zipWith]
  refine xor_lt _ _ _ ?_ ?_
  · rw [List.getElem_map]
    exact gm_lt F _ _ (hs _ (List.getElem_mem _))
  · have := List.getElem_mem (l := s.tail ++ [0]) (n := i) (by rw [List.length_zipWith] at hi; omega)
    rcases List.mem_append.1 this with h | h
    · exact hs _ (List.mem_of_mem_tail h)
    · rw [List.mem_singleton.1 h]; exact Nat.two_pow_pos m
theorem gstep_len (s : List Nat) (root : Nat) (h0 : 0 < s.length) : (gstep m p s root).length = s.length := by
  unfold gstep
  rw [List.length_zipWith, List.length_append, List.length_tail, List.length_map]
  simp; omega
/-- The value at x: times (x - root), less the highest coefficient times x to the length. -/
theorem gstep_pev (F : Fld m p) (x root a : Nat) (t : List Nat) (hx : x < 2 ^ m) (hroot : root < 2 ^ m) (ha : a < 2 ^ m) (ht : AllLt m t) :
    pev m p x (gstep m p (a :: t) root) = gm m p (pev m p x (a :: t)) (x ^^^ root) ^^^ gm m p a (gpow m p x (t.length + 1)) := by
  have hs : AllLt m (a :: t) := by
    intro y hy
    rcases List.mem_cons.1 hy with h | h
    · rw [h]; exact ha
    · exact ht y h
  have ht0 : AllLt m (t ++ [0]) := by
    intro y hy
    rcases List.mem_append.1 hy with h | h
    · exact ht y h
    · rw [List.mem_singleton.1 h]; exact Nat.two_pow_pos m
  have hsm : AllLt m ((a :: t).map fun y => gm m p y root) := by
    intro y hy
    obtain ⟨z, hz, rfl⟩ := List.mem_map.1 hy
    exact gm_lt F z _ (hs z hz)
  have hg := gpow_lt F x t.length hx
  have hpt := pev_lt F x t ht
  show pev m p x (List.zipWith (· ^^^ ·) ((a :: t).map fun y => gm m p y root) (t ++ [0])) = _
  rw [pev_xor F x hx _ _ (by simp) hsm ht0, pev_times F x root hx hroot _ hs, pev_snoc F x hx t 0 ht (Nat.two_pow_pos m), Nat.xor_zero, gm_right, pev_cons F x hx a t ha ht]
  have e : gm m p (gm m p a (gpow m p x t.length)) x = gm m p a (gm m p (gpow m p x t.length) x) := gm_assoc F a _ x ha hg hx
  rw [show gpow m p x (t.length + 1) = gm m p (gpow m p x t.length) x from rfl, gm_left (gm m p a (gpow m p x t.length)) (pev m p x t) root, gm_left (gm m p a (gpow m p x t.length)) (pev m p x t) x, e]
  generalize gm m p a (gm m p (gpow m p x t.length) x) = A
  generalize gm m p (pev m p x t) x = B
  generalize gm m p (gm m p a (gpow m p x t.length)) root ^^^ gm m p (pev m p x t) root = C
  rw [Nat.xor_comm (A ^^^ B) C, Nat.xor_assoc C, Nat.xor_comm (A ^^^ B) A, ← Nat.xor_assoc A A B, Nat.xor_self, Nat.zero_xor]
/-- The generator's factors, one after the other; what is told at a root of one of them stays nought. -/
def gens (m p : Nat) : List Nat → List Nat → List Nat
  | s, [] => s
  | s, r :: l => gens m p (gstep m p s r) l
theorem gens_lt (F : Fld m p) : ∀ (rs s : List Nat), AllLt m s → AllLt m (gens m p s rs) := by
  intro rs
  induction rs with
  | nil => intro s hs; exact hs
  | cons r l ih => intro s hs; exact ih _ (gstep_lt F s r hs)
theorem gens_len : ∀ (rs s : List Nat), 0 < s.length → (gens m p s rs).length = s.length := by
  intro rs
  induction rs with
  | nil => intro s _; rfl
  | cons r l ih => intro s hs; rw [gens, ih _ (by rw [gstep_len s r hs]; exact hs), gstep_len s r hs]
/-- A row of noughts, a one, and more: a factor moves the one up. -/
theorem gstep_lead (k : Nat) (u : List Nat) (root : Nat) : ∃ u', gstep m p (List.replicate (k + 1) 0 ++ 1 :: u) root = List.replicate k 0 ++ 1 :: u' ∧ u'.length = u.length + 1 := by
  induction k with
  | zero =>
    refine ⟨List.zipWith (· ^^^ ·) ((1 :: u).map fun x => gm m p x root) (u ++ [0]), ?_, by simp⟩
    unfold gstep
    simp only [List.replicate_succ, List.replicate_zero, List.nil_append, List.cons_append, List.map_cons, List.tail_cons, List.zipWith_cons_cons, gm_zero_left, Nat.zero_xor]
  | succ k ih =>
    obtain ⟨u', h, hl⟩ := ih
    refine ⟨u', ?_, hl⟩
    have e : gstep m p (List.replicate (k + 1 + 1) 0 ++ 1 :: u) root = 0 :: gstep m p (List.replicate (k + 1) 0 ++ 1 :: u) root := by
      unfold gstep
      simp only [List.replicate_succ, List.cons_append, List.map_cons, List.tail_cons, List.zipWith_cons_cons, gm_zero_left, Nat.zero_xor]
    rw [e, h]
    rfl
/-- While the one has not fallen out: the value at x is the product of the factors. -/
def facs (m p x : Nat) : Nat → List Nat → Nat
  | a, [] => a
  | a, r :: l => facs m p x (gm m p a (x ^^^ r)) l
theorem facs_zero (x : Nat) : ∀ (rs : List Nat), facs m p x 0 rs = 0 := by
  intro rs
  induction rs with
  | nil => rfl
  | cons r l ih => rw [facs, gm_zero_left]; exact ih
theorem facs_root (x : Nat) : ∀ (rs : List Nat) (a : Nat), x ∈ rs → facs m p x a rs = 0 := by
  intro rs
  induction rs with
  | nil => intro a h; cases h
  | cons r l ih =>
    intro a h
    rcases List.mem_cons.1 h with h | h
    · subst h; rw [facs, Nat.xor_self, gm_zero_right, facs_zero]
    · rw [facs]; exact ih _ h
theorem gens_pev (F : Fld m p) (x : Nat) (hx : x < 2 ^ m) : ∀ (rs : List Nat) (k : Nat) (u : List Nat), AllLt m rs → AllLt m u → rs.length = k →
    pev m p x (gens m p (List.replicate k 0 ++ 1 :: u) rs) = facs m p x (pev m p x (List.replicate k 0 ++ 1 :: u)) rs ∧ ∃ u', gens m p (List.replicate k 0 ++ 1 :: u) rs = 1 :: u' ∧ AllLt m u' ∧ u'.length = u.length + k := by
  have h1 : 1 < 2 ^ m := Nat.lt_of_lt_of_le (show 1 < 2 ^ 1 by decide) (Nat.pow_le_pow_right (by omega) F.one)
  intro rs
  induction rs with
  | nil => intro k u _ hu hk; have : k = 0 := hk.symm; subst this; exact ⟨rfl, u, rfl, hu, rfl⟩
  | cons r l ih =>
    intro k u hr hu hk
    obtain ⟨k, rfl⟩ : ∃ j, k = j + 1 := ⟨k - 1, by simp at hk; omega⟩
    have hs : AllLt m (List.replicate (k + 1) 0 ++ 1 :: u) := by
      intro y hy
      rcases List.mem_append.1 hy with h | h
      · rw [List.eq_of_mem_replicate h]; exact Nat.two_pow_pos m
      · rcases List.mem_cons.1 h with h | h
        · rw [h]; exact h1
        · exact hu y h
    have ht : AllLt m (List.replicate k 0 ++ 1 :: u) := fun y hy => hs y (by rw [List.replicate_succ, List.cons_append]; exact List.mem_cons_of_mem _ hy)
    obtain ⟨u', he, hl⟩ := gstep_lead (m := m) (p := p) k u r
    have hlt := gstep_lt F _ r hs
    rw [he] at hlt
    have hu' : AllLt m u' := fun y hy => hlt y (List.mem_append_right _ (List.mem_cons_of_mem _ hy))
    obtain ⟨h2, v, h3, h4, h5⟩ := ih k u' (fun y hy => hr y (by simp [hy])) hu' (by simpa using hk)
    have hp : pev m p x (List.replicate k 0 ++ 1 :: u') = gm m p (pev m p x (List.replicate (k + 1) 0 ++ 1 :: u)) (x ^^^ r) := by
      rw [← he]
      have := gstep_pev F x r 0 (List.replicate k 0 ++ 1 :: u) hx (hr r (by simp)) (Nat.two_pow_pos m) ht
      rw [gm_zero_left, Nat.xor_zero] at this
      exact this
    refine ⟨?_, v, ?_, h4, by omega⟩
    · rw [gens, he, h2, hp]; rfl
    · rw [gens, he, h3]
/-- The generator of all the roots: at each of them its lower words are the power that has fallen out. -/
theorem gens_root (F : Fld m p) (rs : List Nat) (r x : Nat) (hrs : AllLt m rs) (hr : r < 2 ^ m) (hx : x < 2 ^ m) (hmem : x ∈ rs ∨ x = r) :
    pev m p x (gens m p (List.replicate rs.length 0 ++ [1]) (rs ++ [r])) = gpow m p x (rs.length + 1) ∧ AllLt m (gens m p (List.replicate rs.length 0 ++ [1]) (rs ++ [r])) ∧ (gens m p (List.replicate rs.length 0 ++ [1]) (rs ++ [r])).length = rs.length + 1 := by
  have h1 : 1 < 2 ^ m := Nat.lt_of_lt_of_le (show 1 < 2 ^ 1 by decide) (Nat.pow_le_pow_right (by omega) F.one)
  obtain ⟨h2, u, h3, h4, h5⟩ := gens_pev F x hx rs rs.length [] hrs (by intro y hy; cases hy) rfl
  have happ : ∀ (l s : List Nat), gens m p s (l ++ [r]) = gstep m p (gens m p s l) r := by
    intro l
    induction l with
    | nil => intro s; rfl
    | cons a l ih => intro s; exact ih _
  have hul : u.length = rs.length := by simpa using h5
  rw [happ, h3]
  have hu1 : AllLt m (1 :: u) := by
    intro y hy
    rcases List.mem_cons.1 hy with h | h
    · rw [h]; exact h1
    · exact h4 y h
  refine ⟨?_, gstep_lt F _ r hu1, by rw [gstep_len _ _ (by simp), List.length_cons, hul]⟩
  have hg := gpow_lt F x (u.length + 1) hx
  rw [gstep_pev F x r 1 u hx hr h1 h4, hul, gm_comm F 1 _ h1 (gpow_lt F x (rs.length + 1) hx), gm_one F]
  have hz : gm m p (pev m p x (1 :: u)) (x ^^^ r) = 0 := by
    rcases hmem with h | h
    · rw [← h3, h2, facs_root x rs _ h, gm_zero_left]
    · rw [h, Nat.xor_self, gm_zero_right]
  rw [hz, Nat.zero_xor]
end

/-! ### Powers of 2, logarithms: products by tables -/
section
variable {m p : Nat}
/-- 2 to the k. -/
def gx (m p k : Nat) : Nat := glN m p k 1
theorem gx_lt (F : Fld m p) (k : Nat) : gx m p k < 2 ^ m := glN_lt F k 1 (Nat.lt_of_lt_of_le (show 1 < 2 ^ 1 by decide) (Nat.pow_le_pow_right (by omega) F.one))
theorem gx_succ (k : Nat) : gx m p (k + 1) = gl m p (gx m p k) := rfl
theorem gm_one_left (F : Fld m p) (b : Nat) (hb : b < 2 ^ m) : gm m p 1 b = b := by rw [gm_comm F 1 b (gx_lt F 0) hb, gm_one F]
theorem gx_add (F : Fld m p) (i j : Nat) : gm m p (gx m p i) (gx m p j) = gx m p (i + j) := by
  unfold gx
  rw [gm_glN, gm_one_left F (glN m p j 1) (gx_lt F j), glN_glN]
theorem gx_period (n : Nat) (h : gx m p n = 1) (k : Nat) : gx m p (k + n) = gx m p k := by
  unfold gx at h ⊢
  rw [← glN_glN, h]
theorem gx_mod (n : Nat) (h0 : 0 < n) (h : gx m p n = 1) (k : Nat) : gx m p (k % n) = gx m p k := by
  have hq : ∀ q r, gx m p (r + n * q) = gx m p r := by
    intro q
    induction q with
    | zero => intro r; rfl
    | succ q ih => intro r; rw [Nat.mul_succ, ← Nat.add_assoc, gx_period n h, ih]
  have := hq (k / n) (k % n)
  rw [Nat.mod_add_div] at this
  exact this.symm
/-- 2 has the order 2^m - 1. -/
structure Prim (m p : Nat) : Prop where
  whole : gx m p (2 ^ m - 1) = 1
  least : ∀ d, 0 < d → d < 2 ^ m - 1 → gx m p d ≠ 1
theorem ord_pos (F : Fld m p) : 0 < 2 ^ m - 1 := by
  have : 2 ^ 1 ≤ 2 ^ m := Nat.pow_le_pow_right (by omega) F.one
  omega
theorem gx_ne (F : Fld m p) (hP : Prim m p) (k : Nat) : gx m p k ≠ 0 := by
  intro h
  have hz : ∀ j, gx m p (k + j) = 0 := by
    intro j
    rw [← gx_add F, h, gm_zero_left]
  have hn := ord_pos F
  have h2 := hz ((2 ^ m - 1) * (k + 1) - k)
  have hle : k ≤ (2 ^ m - 1) * (k + 1) := Nat.le_trans (Nat.le_succ k) (Nat.le_mul_of_pos_left _ hn)
  rw [Nat.add_sub_cancel' hle, ← gx_mod (2 ^ m - 1) hn hP.whole, Nat.mul_mod_right] at h2
  have : gx m p 0 = 1 := rfl
  omega
theorem gx_inj (F : Fld m p) (hP : Prim m p) (i j : Nat) (hi : i < 2 ^ m - 1) (hj : j < 2 ^ m - 1) (he : gx m p i = gx m p j) : i = j := by
  have key : ∀ a b, a < b → b < 2 ^ m - 1 → gx m p a = gx m p b → False := by
    intro a b hab hb h
    have h1 : gx m p (a + (2 ^ m - 1 - a)) = gx m p (b + (2 ^ m - 1 - a)) := by rw [← gx_add F, ← gx_add F, h]
    rw [show a + (2 ^ m - 1 - a) = 2 ^ m - 1 by omega, show b + (2 ^ m - 1 - a) = (b - a) + (2 ^ m - 1) by omega, gx_period _ hP.whole, hP.whole] at h1
    exact hP.least (b - a) (by omega) (by omega) h1.symm
  rcases Nat.lt_trichotomy i j with h | h | h
  · exact absurd he (fun he => key i j h hj he)
  · exact h
  · exact absurd he.symm (fun he => key j i h hi he)
/-- Every element but 0 is a power of 2, below the order. -/
theorem gx_log (F : Fld m p) (hP : Prim m p) (a : Nat) (h0 : a ≠ 0) (ha : a < 2 ^ m) : ∃ i, i < 2 ^ m - 1 ∧ gx m p i = a := by
  have hnd : ((List.range (2 ^ m - 1)).map (gx m p)).Nodup := by
    refine List.pairwise_iff_getElem.2 ?_
    intro i j hi hj hij he
    simp only [List.length_map, List.length_range] at hi hj
    simp only [List.getElem_map, List.getElem_range] at he
    have := gx_inj F hP i j hi hj he
    omega
  by_cases hm : a ∈ (List.range (2 ^ m - 1)).map (gx m p)
  · obtain ⟨i, hi, he⟩ := List.mem_map.1 hm
    exact ⟨i, List.mem_range.1 hi, he⟩
  · have h2 : (a :: (List.range (2 ^ m - 1)).map (gx m p)).Nodup := List.nodup_cons.2 ⟨hm, hnd⟩
    have hin : ∀ x, x ≠ 0 → x < 2 ^ m → x ∈ (List.range (2 ^ m - 1)).map (· + 1) := by
      intro x hx hl
      exact List.mem_map.2 ⟨x - 1, List.mem_range.2 (by omega), by show x - 1 + 1 = x; omega⟩
    have hsub : (a :: (List.range (2 ^ m - 1)).map (gx m p)) ⊆ (List.range (2 ^ m - 1)).map (· + 1) := by
      intro x hx
      rcases List.mem_cons.1 hx with h | h
      · rw [h]; exact hin a h0 ha
      · obtain ⟨i, _, rfl⟩ := List.mem_map.1 h
        exact hin _ (gx_ne F hP i) (gx_lt F i)
    have := List.Nodup.length_le_of_subset h2 hsub
    rw [List.length_cons, List.length_map, List.length_map, List.length_range] at this
    omega
/-- No two elements but 0 have the product 0. -/
theorem gm_ne (F : Fld m p) (hP : Prim m p) (a b : Nat) (h0 : a ≠ 0) (h1 : b ≠ 0) (ha : a < 2 ^ m) (hb : b < 2 ^ m) : gm m p a b ≠ 0 := by
  obtain ⟨i, _, rfl⟩ := gx_log F hP a h0 ha
  obtain ⟨j, _, rfl⟩ := gx_log F hP b h1 hb
  rw [gx_add F]
  exact gx_ne F hP _
/-- Every element but 0 has an inverse. -/
theorem gm_inv (F : Fld m p) (hP : Prim m p) (a : Nat) (h0 : a ≠ 0) (ha : a < 2 ^ m) : ∃ b, b ≠ 0 ∧ b < 2 ^ m ∧ gm m p a b = 1 := by
  obtain ⟨i, hi, rfl⟩ := gx_log F hP a h0 ha
  exact ⟨gx m p (2 ^ m - 1 - i), gx_ne F hP _, gx_lt F _, by rw [gx_add F, show i + (2 ^ m - 1 - i) = 2 ^ m - 1 by omega, hP.whole]⟩
/-- The product by logarithms. -/
theorem gm_tab (F : Fld m p) (hP : Prim m p) (i j : Nat) : gm m p (gx m p i) (gx m p j) = gx m p ((i + j) % (2 ^ m - 1)) := by rw [gx_add F, gx_mod _ (ord_pos F) hP.whole]
def ordB (m p : Nat) : Nat → Nat → Bool
  | 0, x => x == 1
  | k + 1, x => x != 1 && ordB m p k (gl m p x)
theorem prim_of (m p n : Nat) (hn : 2 ^ m - 1 = n + 1) (h : ordB m p n (gx m p 1) = true) : Prim m p := by
  have H : ∀ (k i : Nat), ordB m p k (gx m p i) = true → gx m p (i + k) = 1 ∧ ∀ d, i ≤ d → d < i + k → gx m p d ≠ 1 := by
    intro k
    induction k with
    | zero => intro i h; exact ⟨by simpa [ordB] using h, fun d h1 h2 => by omega⟩
    | succ k ih =>
      intro i h
      rw [ordB, Bool.and_eq_true, ← gx_succ] at h
      obtain ⟨h1, h2⟩ := h
      obtain ⟨h3, h4⟩ := ih (i + 1) h2
      refine ⟨by rw [← h3]; congr 1; omega, fun d h5 h6 => ?_⟩
      by_cases he : d = i
      · subst he; simpa using h1
      · exact h4 d (by omega) (by omega)
  obtain ⟨h1, h2⟩ := H n 1 h
  exact ⟨by rw [hn, Nat.add_comm]; exact h1, fun d h3 h4 => h2 d h3 (by omega)⟩
theorem fld (m p : Nat) (h1 : 1 ≤ m) (h2 : 2 ^ m ≤ p) (h3 : p < 2 ^ (m + 1)) : Fld m p := ⟨h1, h2, h3⟩
theorem fQR : Fld 8 285 := fld 8 285 (by decide) (by decide) (by decide)
theorem fDM : Fld 8 301 := fld 8 301 (by decide) (by decide) (by decide)
theorem fA4 : Fld 4 19 := fld 4 19 (by decide) (by decide) (by decide)
theorem fA6 : Fld 6 67 := fld 6 67 (by decide) (by decide) (by decide)
theorem fA10 : Fld 10 1033 := fld 10 1033 (by decide) (by decide) (by decide)
theorem fA12 : Fld 12 4201 := fld 12 4201 (by decide) (by decide) (by decide)
theorem pQR : Prim 8 285 := prim_of 8 285 254 rfl (by decide +kernel)
theorem pDM : Prim 8 301 := prim_of 8 301 254 rfl (by decide +kernel)
theorem pA4 : Prim 4 19 := prim_of 4 19 14 rfl (by decide +kernel)
theorem pA6 : Prim 6 67 := prim_of 6 67 62 rfl (by decide +kernel)
theorem pA10 : Prim 10 1033 := prim_of 10 1033 1022 rfl (by decide +kernel)
theorem pA12 : Prim 12 4201 := prim_of 12 4201 4094 rfl (by decide +kernel)
end
end Go.Proofs.YtgccjgpdjkhpdaaGreat.B
