import Derived.Test.YthkddnmomjcdaaaGreatF0
namespace Go.Proofs.YthkddnmomjcdaaaGreat.B
open Go.RowKit Go.Proofs.YthkddnmomjcdaaaGreatW.PrintWords Go.Proofs.YthkddnmomjcdaaaGreatW.PrintLast Go.Proofs.YthkddnmomjcdaaaGreatW.PrintMore
set_option linter.unusedVariables false
set_option linter.unusedSimpArgs false

/-- Block g is just the cells cs of element type t, none frozen. -/
def Blk (w : World) (g : Nat) (t : TypeId) (cs : Array Value) : Prop := w.heap[g]? = some (.cells cs t (0, 0))
theorem Blk.cell {w : World} {g : Nat} {t : TypeId} {cs : Array Value} (h : Blk w g t cs) (i : Nat) : w.cell? ⟨g, i, none⟩ = cs[i]? := blk_cell h i
theorem Blk.frozen {w : World} {g : Nat} {t : TypeId} {cs : Array Value} (h : Blk w g t cs) (i : Nat) : w.frozen? ⟨g, i, none⟩ = false := blk_frozen h i
theorem Blk.lt {w : World} {g : Nat} {t : TypeId} {cs : Array Value} (h : Blk w g t cs) : g < w.heap.size := blk_lt h
theorem Blk.ucell {w : World} {g : Nat} {t : TypeId} {k : IntKind} {xs : List Int} (h : Blk w g t (nums k xs).toArray) (i : Int) (h0 : 0 ≤ i) (h1 : i < xs.length) : w.cell? ⟨g, i.toNat, none⟩ = some (.int k (rd xs i)) := by
  rw [h.cell]
  simp [nums, rd, List.getD, List.getElem?_eq_getElem (show i.toNat < xs.length by omega)]
theorem Blk.uset {w : World} {g : Nat} {t : TypeId} {k : IntKind} {xs : List Int} (h : Blk w g t (nums k xs).toArray) (i : Nat) (v : Int) : Blk (w.setCell ⟨g, i, none⟩ (.int k v)) g t (nums k (xs.set i v)).toArray := by
  have := blk_set h i (.int k v)
  unfold Blk
  rw [this]
  simp [nums, List.map_set]
theorem Blk.far {w : World} {g : Nat} {t : TypeId} {cs : Array Value} (h : Blk w g t cs) {p : Addr} (hp : g ≠ p.block) (u : Value) : Blk (w.setCell p u) g t cs := blk_far h hp u
theorem Blk.alloc {w : World} {g : Nat} {t : TypeId} {cs : Array Value} (h : Blk w g t cs) (o : Obj) : Blk (w.alloc o) g t cs := blk_alloc h o
theorem Blk.below {w w' : World} {g : Nat} {t : TypeId} {cs : Array Value} {B : Nat} (h : Blk w g t cs) (hb : Below B w w') (hg : g < B) : Blk w' g t cs := (hb.block g hg).trans h
theorem Blk.new (w : World) (t : TypeId) (cs : Array Value) : Blk (w.alloc (.cells cs t)) w.heap.size t cs := heap_alloc_new w _

theorem run_make_rowN {P : Program} (t e : TypeId) (i : TypeInfo) (z : Value) (ht : P.underlying t = some (.slice e)) (hi : P.info? e = some i) (hz : i.zero = some z)
    (kl kc : IntKind) (n c : Nat) (hnc : n ≤ c) (hbytes : i.bytes * c ≤ 281474976710656) (h63 : c ≤ 9223372036854775807) (w : World) :
    (Instr.makeSlice t (.int kl (n : Int)) (.int kc (c : Int))).run P w = .ok (.slice (some ⟨w.heap.size, 0, none⟩) n c) (w.alloc (.cells (madeCells z.cells (c * i.size)) e)) := by
  have hb : (i.bytes : Int) * (c : Int) ≤ 281474976710656 := by
    have h : ((i.bytes * c : Nat) : Int) ≤ 281474976710656 := by omega
    rwa [Int.natCast_mul] at h
  have hr := run_make (P := P) w t e i z ht hi hz kl kc n c (by omega) (by omega) hb (by omega)
  simp only [Int.toNat_natCast] at hr
  exact hr
/-- make([]uint32, n) -/
theorem make_u32 (n : Nat) (h : n ≤ 1000000000) (w : World) : (Instr.makeSlice 73 (.int .i64 (n : Int)) (.int .i64 (n : Int))).run Tryz.prog w = .ok (.slice (some ⟨w.heap.size, 0, none⟩) n n) (w.alloc (.cells (nums .u32 (List.replicate n 0)).toArray 78)) := by
  obtain ⟨i, hi, hz, hs, hb⟩ := info_parts F.info78
  have := run_make_rowN (P := Tryz.prog) 73 78 i (.int .u32 0) Tryz.underlying73 hi hz .i64 .i64 n n (Nat.le_refl _) (by rw [hb]; omega) (by omega) w
  have e : madeCells (Value.int .u32 0).cells (n * 1) = (nums .u32 (List.replicate n 0)).toArray := by
    apply Array.toList_inj.1
    rw [Nat.mul_one]
    exact (toList_madeCells_one _ _).trans (by simp [nums])
  rw [this, hs, e]

theorem newBM (w : World) (wd ht rs : Int) (N : Nat) (h1 : 1 ≤ wd) (h2 : 1 ≤ ht) (h3 : wd ≤ 100000000) (hrs : (wd + 31) / 32 = rs) (hn : rs * ht = (N : Int)) (hN : N ≤ 1000000000) :
    Calls Tryz.prog 104 #[.int .i64 wd, .int .i64 ht] w fun e w' => e = .returned (.tuple #[.pointer (some ⟨w.heap.size + 1, 0, none⟩), .nilIface]) ∧
      w' = (w.alloc (.cells (nums .u32 (List.replicate N 0)).toArray 78)).alloc (.cells #[.int .i64 wd, .int .i64 ht, .int .i64 rs, .slice (some ⟨w.heap.size, 0, none⟩) N N] 75) := by
  have hmk := make_u32 N hN
  have a1 : ¬ wd < 1 := by omega
  have a2 : ¬ ht < 1 := by omega
  have a3 : wrap64 (rs * ht) = (N : Int) := by rw [hn]; unfold wrap64; omega
  go_enter Tryz.func104, Tryz.ntmps104
  go_wp2
  go_ret2
  exact ⟨rfl, rfl⟩

/-- make of an array of words for so many bits -/
theorem mkArray (w : World) (n : Int) (N : Nat) (h0 : 0 ≤ n) (h1 : n ≤ 100000000) (hN : (n + 31) / 32 = (N : Int)) :
    Calls Tryz.prog 72 #[.int .i64 n] w fun e w' => e = .returned (.slice (some ⟨w.heap.size, 0, none⟩) N N) ∧ w' = w.alloc (.cells (nums .u32 (List.replicate N 0)).toArray 78) := by
  have hmk := make_u32 N (by omega)
  go_enter Tryz.func72, Tryz.ntmps72
  go_wp2
  go_ret
  exact ⟨rfl, rfl⟩

theorem newBA (w : World) (n : Int) (N : Nat) (h0 : 0 ≤ n) (h1 : n ≤ 100000000) (hN : (n + 31) / 32 = (N : Int)) :
    Calls Tryz.prog 59 #[.int .i64 n] w fun e w' => e = .returned (.pointer (some ⟨w.heap.size + 1, 0, none⟩)) ∧
      w' = (w.alloc (.cells (nums .u32 (List.replicate N 0)).toArray 78)).alloc (.cells #[.slice (some ⟨w.heap.size, 0, none⟩) N N, .int .i64 n] 100) := by
  have Hn := Aside0.mk hN
  clear hN
  go_enter Tryz.func59, Tryz.ntmps59
  go_wp2_with (go_at_call 72; refine (mkArray _ _ N h0 h1 Hn.out).mono ?_; rintro e w' ⟨rfl, rfl⟩)
  go_ret
  exact ⟨rfl, rfl⟩

/-- b.bits[i / 32] = v -/
theorem setBulk (w : World) (g gb : Nat) (n : Int) (xs : List Int) (N : Nat) (i v : Int) (hg : Blk w g 100 #[.slice (some ⟨gb, 0, none⟩) N N, .int .i64 n]) (hb : Blk w gb 78 (nums .u32 xs).toArray) (hN : xs.length = N) (hN2 : N ≤ 1000000000) (h0 : 0 ≤ i) (h1 : i / 32 < (N : Int)) :
    Calls Tryz.prog 61 #[.pointer (some ⟨g, 0, none⟩), .int .i64 i, .int .u32 v] w fun e w' => e = .returned (.tuple #[]) ∧ w' = w.setCell ⟨gb, (i / 32).toNat, none⟩ (.int .u32 v) := by
  have c0 := hg.cell 0
  have c1 : w.cell? ⟨gb, (i / 32).toNat, none⟩ = some (.int .u32 (rd xs (i / 32))) := hb.ucell (i / 32) (by omega) (by omega)
  have c2 := hb.frozen (i / 32).toNat
  have b0 : 0 ≤ i / 32 := by omega
  simp only [List.getElem?_toArray, List.getElem?_cons_zero] at c0
  clear hN
  go_enter Tryz.func61, Tryz.ntmps61
  go_wp2
  go_end0
  exact ⟨rfl, rfl⟩

/-- Just the block gb has turned. -/
structure Turn (w w' : World) (gb : Nat) : Prop where
  os : w'.os = w.os
  tape : w'.tape = w.tape
  output : w'.output = w.output
  size : w'.heap.size = w.heap.size
  block : ∀ k, k ≠ gb → w'.heap[k]? = w.heap[k]?
theorem Turn.refl (w : World) (gb : Nat) : Turn w w gb := ⟨rfl, rfl, rfl, rfl, fun _ _ => rfl⟩
theorem Turn.trans {a b c : World} {gb : Nat} (h : Turn a b gb) (k : Turn b c gb) : Turn a c gb := ⟨k.os.trans h.os, k.tape.trans h.tape, k.output.trans h.output, k.size.trans h.size, fun i hi => (k.block i hi).trans (h.block i hi)⟩
theorem Turn.set (w : World) (gb i : Nat) (u : Value) : Turn w (w.setCell ⟨gb, i, none⟩ u) gb := ⟨rfl, rfl, rfl, by simp [World.setCell], fun k hk => Below.heap_setCell w _ u k hk⟩
theorem Turn.blk {w w' : World} {gb g : Nat} {t : TypeId} {cs : Array Value} (h : Turn w w' gb) (hb : Blk w g t cs) (hne : g ≠ gb) : Blk w' g t cs := (h.block g hne).trans hb
theorem Turn.below {w w' : World} {gb B : Nat} (h : Turn w w' gb) (hB : B ≤ gb) : Below B w w' := ⟨h.os, h.tape, h.output, by rw [h.size]; exact Nat.le_refl _, fun k hk => h.block k (by omega)⟩

/-- The bit x of a row of bits from the word o on is set. -/
def orBit (xs : List Int) (o x : Int) : List Int := xs.set (o + x / 32).toNat (Go.bits .or .u32 (rd xs (o + x / 32)) (2 ^ (x % 32).toNat % 4294967296))
def sregX (xs : List Int) (o left : Int) : Nat → List Int
  | 0 => xs
  | n + 1 => orBit (sregX xs o left n) o (left + n)
def sreg (xs : List Int) (rs left : Int) (n : Nat) (top : Int) : Nat → List Int
  | 0 => xs
  | m + 1 => sregX (sreg xs rs left n top m) ((top + m) * rs) left n
theorem orBit_length (xs : List Int) (o x : Int) : (orBit xs o x).length = xs.length := by simp [orBit]
theorem sregX_length (xs : List Int) (o left : Int) (n : Nat) : (sregX xs o left n).length = xs.length := by
  induction n with
  | zero => rfl
  | succ n ih => rw [sregX, orBit_length, ih]
theorem sreg_length (xs : List Int) (rs left : Int) (n : Nat) (top : Int) (m : Nat) : (sreg xs rs left n top m).length = xs.length := by
  induction m with
  | zero => rfl
  | succ m ih => rw [sreg, sregX_length, ih]
theorem sregX_step (xs : List Int) (o left x : Int) (h : left ≤ x) : sregX xs o left (x + 1 - left).toNat = orBit (sregX xs o left (x - left).toNat) o x := by
  rw [show (x + 1 - left).toNat = (x - left).toNat + 1 by omega, sregX, show left + ((x - left).toNat : Int) = x by omega]
theorem sreg_step (xs : List Int) (rs left : Int) (n : Nat) (top y : Int) (h : top ≤ y) : sreg xs rs left n top (y + 1 - top).toNat = sregX (sreg xs rs left n top (y - top).toNat) (y * rs) left n := by
  rw [show (y + 1 - top).toNat = (y - top).toNat + 1 by omega, sreg, show top + ((y - top).toNat : Int) = y by omega]

set_option maxHeartbeats 1000000 in
theorem setRegion (w : World) (g gb : Nat) (wd ht rs left top n m : Int) (xs : List Int) (N : Nat)
    (hg : Blk w g 75 #[.int .i64 wd, .int .i64 ht, .int .i64 rs, .slice (some ⟨gb, 0, none⟩) N N]) (hb : Blk w gb 78 (nums .u32 xs).toArray) (hl : xs.length = N) (hN : N ≤ 1000000000)
    (hrs : (wd + 31) / 32 = rs) (hn : rs * ht = (N : Int)) (h0 : 0 ≤ left) (h1 : 0 ≤ top) (h2 : 1 ≤ n) (h3 : 1 ≤ m) (h4 : left + n ≤ wd) (h5 : top + m ≤ ht) (h6 : wd ≤ 100000000) (h7 : ht ≤ 100000000) :
    Calls Tryz.prog 106 #[.pointer (some ⟨g, 0, none⟩), .int .i64 left, .int .i64 top, .int .i64 n, .int .i64 m] w fun e w' => e = .returned .nilIface ∧
      Blk w' gb 78 (nums .u32 (sreg xs rs left n.toNat top m.toNat)).toArray ∧ Turn w w' gb := by
  have hne : g ≠ gb := blk_ne hg hb (by decide)
  have c0 : w.cell? ⟨g, 0, none⟩ = some (.int .i64 wd) := hg.cell 0
  have c1 : w.cell? ⟨g, 1, none⟩ = some (.int .i64 ht) := hg.cell 1
  have HG := Aside0.mk hg
  have HB := Aside0.mk hb
  have HL := Aside0.mk hl
  have HN := Aside0.mk hn
  have HR := Aside0.mk hrs
  clear hg hb hl hn hrs
  go_enter Tryz.func106, Tryz.ntmps106
  go_wp2
  go_loopw [13] (fun v wr => ∃ y : Int, top ≤ y ∧ y ≤ top + m ∧ v = .int .i64 y ∧ Aside0 (Blk wr gb 78 (nums .u32 (sreg xs rs left n.toNat top (y - top).toNat)).toArray) ∧ Aside0 (Turn w wr gb)) (fun v _ => (top + m - intOf v).toNat)
  case atStart => exact ⟨top, by omega, by omega, rfl, ⟨by rw [show (top - top).toNat = 0 by omega]; exact HB.out⟩, ⟨Turn.refl _ _⟩⟩
  case round =>
    obtain ⟨y, hy1, hy2, rfl, HY, HT⟩ := hrel
    clear c0 c1
    by_cases hlt : y < top + m
    · have hgr := HT.out.blk HG.out hne
      have c2 : wr.cell? ⟨g, 2, none⟩ = some (.int .i64 rs) := hgr.cell 2
      clear hgr
      obtain ⟨o, ho⟩ : ∃ o, y * rs = o := ⟨_, rfl⟩
      have ho1 : 0 ≤ o ∧ o + rs ≤ N := by
        have hr0 : 0 ≤ rs := by have := HR.out; omega
        have hq := HN.out
        have e1 := Int.mul_le_mul_of_nonneg_right (show y + 1 ≤ ht by omega) hr0
        have e2 : (y + 1) * rs = y * rs + rs := by rw [Int.add_mul, Int.one_mul]
        have e3 : ht * rs = rs * ht := Int.mul_comm _ _
        have e4 := Int.mul_nonneg (show 0 ≤ y by omega) hr0
        omega
      obtain ⟨ho1, ho2⟩ := ho1
      have hr0 : 0 ≤ rs := by have := HR.out; omega
      have how : wrap64 (y * rs) = o := by rw [ho]; unfold wrap64; omega
      have HO := Aside0.mk ho
      clear ho
      obtain ⟨ys, hys⟩ : ∃ ys, sreg xs rs left n.toNat top (y - top).toNat = ys := ⟨_, rfl⟩
      have hyl : ys.length = N := by rw [← hys, sreg_length, HL.out]
      rw [hys] at HY
      have HYS := Aside0.mk hys
      have HYL := Aside0.mk hyl
      clear hys hyl
      go_wp2
      obtain ⟨wo, rfl⟩ : ∃ wo : World, wo = wr := ⟨_, rfl⟩
      clear c2
      go_loopw [15] (fun v wi => ∃ x : Int, left ≤ x ∧ x ≤ left + n ∧ v = .int .i64 x ∧ Aside0 (Blk wi gb 78 (nums .u32 (sregX ys o left (x - left).toNat)).toArray) ∧ Aside0 (Turn wo wi gb)) (fun v _ => (left + n - intOf v).toNat)
      case atStart => exact ⟨left, by omega, by omega, rfl, ⟨by rw [show (left - left).toNat = 0 by omega]; exact HY.out⟩, ⟨Turn.refl _ _⟩⟩
      case round =>
        obtain ⟨x, hx1, hx2, rfl, HX, HU⟩ := hrel
        by_cases hlx : x < left + n
        · have hgr := HU.out.blk (HT.out.blk HG.out hne) hne
          have c3 : wr.cell? ⟨g, 3, none⟩ = some (.slice (some ⟨gb, 0, none⟩) N N) := hgr.cell 3
          clear hgr
          obtain ⟨zs, hzs⟩ : ∃ zs, sregX ys o left (x - left).toNat = zs := ⟨_, rfl⟩
          have hzl : zs.length = N := by rw [← hzs, sregX_length, HYL.out]
          rw [hzs] at HX
          have b0 : 0 ≤ o + x / 32 := by omega
          have b1 : o + x / 32 < (N : Int) := by have := HR.out; omega
          have c4 : wr.cell? ⟨gb, (o + x / 32).toNat, none⟩ = some (.int .u32 (rd zs (o + x / 32))) := HX.out.ucell _ b0 (by omega)
          have c5 := HX.out.frozen (o + x / 32).toNat
          have HZ := Aside0.mk hzs
          clear hzs hzl
          go_wp2
          go_roundw
          case rel => exact ⟨x + 1, by omega, by omega, by go_num, ⟨by rw [sregX_step _ _ _ _ hx1, HZ.out]; exact HX.out.uset _ _⟩, ⟨HU.out.trans (Turn.set _ _ _ _)⟩⟩
          case measure => simp [intOf]; omega
        · have : x = left + n := by omega
          subst this
          go_wp2
          go_roundw
          case rel => exact ⟨y + 1, by omega, by omega, by go_num, ⟨by rw [sreg_step _ _ _ _ _ _ hy1, HYS.out, HO.out]; have := HX.out; rwa [show (left + n - left).toNat = n.toNat by omega] at this⟩, ⟨HT.out.trans HU.out⟩⟩
          case measure => simp [intOf]; omega
    · have : y = top + m := by omega
      subst this
      go_wp2
      go_ret
      refine ⟨rfl, ?_, HT.out⟩
      have := HY.out
      rwa [show (top + m - top).toNat = m.toNat by omega] at this

/-- A row of bits as it is copied, word by word. -/
def cpy (xs ys : List Int) (o : Int) : Nat → List Int
  | 0 => ys
  | n + 1 => (cpy xs ys o n).set n (rd xs (o + n))
theorem cpy_length (xs ys : List Int) (o : Int) (n : Nat) : (cpy xs ys o n).length = ys.length := by
  induction n with
  | zero => rfl
  | succ n ih => rw [cpy, List.length_set, ih]

set_option maxHeartbeats 1000000 in
theorem getRow (w : World) (g gb : Nat) (wd ht rs y : Int) (xs : List Int) (N R : Nat)
    (hg : Blk w g 75 #[.int .i64 wd, .int .i64 ht, .int .i64 rs, .slice (some ⟨gb, 0, none⟩) N N]) (hb : Blk w gb 78 (nums .u32 xs).toArray) (hl : xs.length = N) (hN : N ≤ 1000000000)
    (hrs : (wd + 31) / 32 = rs) (hR : rs = (R : Int)) (hn : rs * ht = (N : Int)) (h1 : 0 ≤ y) (h5 : y < ht) (h0 : 0 ≤ wd) (h6 : wd ≤ 100000000) :
    Calls Tryz.prog 31 #[.pointer (some ⟨g, 0, none⟩), .int .i64 y, .pointer none] w fun e w' => e = .returned (.pointer (some ⟨w.heap.size + 1, 0, none⟩)) ∧
      Blk w' w.heap.size 78 (nums .u32 (cpy xs (List.replicate R 0) (y * rs) R)).toArray ∧ Blk w' (w.heap.size + 1) 100 #[.slice (some ⟨w.heap.size, 0, none⟩) R R, .int .i64 wd] ∧ Below w.heap.size w w' ∧ w'.heap.size = w.heap.size + 2 := by
  have c0 : w.cell? ⟨g, 0, none⟩ = some (.int .i64 wd) := hg.cell 0
  have HG := Aside0.mk hg
  have HB := Aside0.mk hb
  have HL := Aside0.mk hl
  have HN := Aside0.mk hn
  have HR := Aside0.mk hrs
  have HR2 := Aside0.mk hR
  clear hg hb hl hn hrs hR
  go_enter Tryz.func31, Tryz.ntmps31
  go_wp2
  go_quiet (fail)
  go_wp2_with fail
  refine (newBA _ _ R h0 h6 (by rw [HR.out, HR2.out])).mono ?_
  rintro e w1 ⟨rfl, hw1⟩
  have hne := blk_ne HG.out HB.out (by decide)
  have hbw : Below w.heap.size w w1 := by rw [hw1]; exact below_alloc (below_alloc (pw_below_drewN (Below.refl _ _) _) _) _
  have bg := HG.out.below hbw HG.out.lt
  have bb := HB.out.below hbw HB.out.lt
  have b1 : Blk w1 w.heap.size 78 (nums .u32 (List.replicate R 0)).toArray := by rw [hw1]; exact Blk.alloc (Blk.new (w.drewN nq) _ _) _
  have b2 : Blk w1 (w.heap.size + 1) 100 #[.slice (some ⟨w.heap.size, 0, none⟩) R R, .int .i64 wd] := by
    rw [hw1]
    have := Blk.new ((w.drewN nq).alloc (.cells (nums .u32 (List.replicate R 0)).toArray 78)) 100 #[.slice (some ⟨w.heap.size, 0, none⟩) R R, .int .i64 wd]
    simpa using this
  have hsz : w1.heap.size = w.heap.size + 2 := by rw [hw1]; simp
  have c2 : w1.cell? ⟨g, 2, none⟩ = some (.int .i64 rs) := bg.cell 2
  clear hw1 c0
  obtain ⟨o, ho⟩ : ∃ o, y * rs = o := ⟨_, rfl⟩
  have hr0 : 0 ≤ rs := by have := HR.out; omega
  have ho1 : 0 ≤ o ∧ o + rs ≤ N := by
    have hq := HN.out
    have e1 := Int.mul_le_mul_of_nonneg_right (show y + 1 ≤ ht by omega) hr0
    have e2 : (y + 1) * rs = y * rs + rs := by rw [Int.add_mul, Int.one_mul]
    have e3 : ht * rs = rs * ht := Int.mul_comm _ _
    have e4 := Int.mul_nonneg h1 hr0
    omega
  obtain ⟨ho1, ho2⟩ := ho1
  have how : wrap64 (y * rs) = o := by rw [ho]; unfold wrap64; omega
  have BG := Aside0.mk bg
  have BB := Aside0.mk bb
  have B1 := Aside0.mk b1
  have B2 := Aside0.mk b2
  have BW := Aside0.mk hbw
  have SZ := Aside0.mk hsz
  have OO := Aside0.mk ho
  clear bg bb b1 b2 hbw hsz ho
  have hlt : g < w.heap.size := HG.out.lt
  have hlt2 : gb < w.heap.size := HB.out.lt
  go_wp2
  simp only [how]
  clear c2 how
  go_loopw [8] (fun v wr => ∃ n : Nat, n ≤ R ∧ v = .int .i64 n ∧ Aside0 (Blk wr w.heap.size 78 (nums .u32 (cpy xs (List.replicate R 0) o n)).toArray) ∧ Aside0 (Turn w1 wr w.heap.size)) (fun v _ => R - (intOf v).toNat)
  case atStart => exact ⟨0, by omega, rfl, B1, ⟨Turn.refl _ _⟩⟩
  case round =>
    obtain ⟨n, hn, rfl, HX, HU⟩ := hrel
    have hRr : (R : Int) = rs := HR2.out.symm
    have hgr := HU.out.blk BG.out (by omega)
    have hbr := HU.out.blk BB.out (by omega)
    have har := HU.out.blk B2.out (by omega)
    have c2 : wr.cell? ⟨g, 2, none⟩ = some (.int .i64 rs) := hgr.cell 2
    have c3 : wr.cell? ⟨g, 3, none⟩ = some (.slice (some ⟨gb, 0, none⟩) N N) := hgr.cell 3
    clear hgr
    have RR := Aside0.mk hRr
    clear hRr
    by_cases hlx : (n : Int) < rs
    · have b0 : 0 ≤ o + (n : Int) := by omega
      have b1 : o + (n : Int) < (N : Int) := by omega
      have c4 : wr.cell? ⟨gb, (o + (n : Int)).toNat, none⟩ = some (.int .u32 (rd xs (o + n))) := hbr.ucell _ b0 (by have := HL.out; omega)
      have HAR := Aside0.mk har
      clear har hbr
      have hw32 : ((n : Int) * 32 / 32).toNat = n := by omega
      have H32 := Aside0.mk hw32
      clear hw32
      go_wp2_with fail
      refine (setBulk wr (w.heap.size + 1) w.heap.size wd _ R ((n : Int) * 32) _ HAR.out HX.out (by rw [cpy_length, List.length_replicate]) (by have := RR.out; omega) (by omega) (by have := RR.out; omega)).mono ?_
      rintro e w2 ⟨rfl, hw2⟩
      rw [H32.out] at hw2
      subst hw2
      go_wp2
      go_roundw
      case rel => exact ⟨n + 1, by have := RR.out; omega, by go_num, ⟨by rw [cpy]; exact HX.out.uset _ _⟩, ⟨HU.out.trans (Turn.set _ _ _ _)⟩⟩
      case measure => simp [intOf]; have := RR.out; omega
    · have : (n : Int) = rs := by have := RR.out; omega
      clear c3
      go_wp2
      go_ret
      refine ⟨rfl, ?_, HU.out.blk B2.out (by omega), BW.out.trans (HU.out.below (Nat.le_refl _)), HU.out.size.trans SZ.out⟩
      have e : n = R := by have := RR.out; omega
      rw [OO.out, ← e]
      exact e ▸ HX.out

theorem Blk.bcell {w : World} {g : Nat} {t : TypeId} {xs : List Bool} (h : Blk w g t (bools xs).toArray) (i : Int) (h0 : 0 ≤ i) (h1 : i < xs.length) : w.cell? ⟨g, i.toNat, none⟩ = some (.bool (rdOf false xs i)) := by
  rw [h.cell]
  simp [bools, rdOf, List.getD, List.getElem?_eq_getElem (show i.toNat < xs.length by omega)]
theorem Blk.bset {w : World} {g : Nat} {t : TypeId} {xs : List Bool} (h : Blk w g t (bools xs).toArray) (i : Nat) (v : Bool) : Blk (w.setCell ⟨g, i, none⟩ (.bool v)) g t (bools (xs.set i v)).toArray := by
  have := blk_set h i (.bool v)
  unfold Blk
  rw [this]
  simp [bools, List.map_set]
theorem make_bool (n : Nat) (h : n ≤ 1000000000) (w : World) : (Instr.makeSlice 27 (.int .i64 (n : Int)) (.int .i64 (n : Int))).run Tryz.prog w = .ok (.slice (some ⟨w.heap.size, 0, none⟩) n n) (w.alloc (.cells (bools (List.replicate n false)).toArray 4)) := by
  obtain ⟨i, hi, hz, hs, hb⟩ := info_parts F.info4
  have := run_make_rowN (P := Tryz.prog) 27 4 i (.bool false) Tryz.underlying27 hi hz .i64 .i64 n n (Nat.le_refl _) (by rw [hb]; omega) (by omega) w
  have e : madeCells (Value.bool false).cells (n * 1) = (bools (List.replicate n false)).toArray := by
    apply Array.toList_inj.1
    rw [Nat.mul_one]
    exact (toList_madeCells_one _ _).trans (by simp [bools])
  rw [this, hs, e]

/-- The bit x of a row of bits. -/
def bitAt (xs : List Int) (x : Int) : Bool := Go.bits .and .u32 (rd xs (x / 32)) (2 ^ (x % 32).toNat % 4294967296) != 0
theorem baSize (w : World) (g gb : Nat) (n : Int) (N : Nat) (hg : Blk w g 100 #[.slice (some ⟨gb, 0, none⟩) N N, .int .i64 n]) :
    Calls Tryz.prog 57 #[.pointer (some ⟨g, 0, none⟩)] w fun e w' => e = .returned (.int .i64 n) ∧ w = w' := by
  have c1 : w.cell? ⟨g, 1, none⟩ = some (.int .i64 n) := hg.cell 1
  go_enter Tryz.func57, Tryz.ntmps57
  go_wp2
  go_ret
  exact ⟨rfl, rfl⟩
theorem baGet (w : World) (g gb : Nat) (n : Int) (xs : List Int) (N : Nat) (i : Int) (hg : Blk w g 100 #[.slice (some ⟨gb, 0, none⟩) N N, .int .i64 n]) (hb : Blk w gb 78 (nums .u32 xs).toArray) (hN : xs.length = N) (hN2 : N ≤ 1000000000) (h0 : 0 ≤ i) (h1 : i / 32 < (N : Int)) :
    Calls Tryz.prog 58 #[.pointer (some ⟨g, 0, none⟩), .int .i64 i] w fun e w' => e = .returned (.bool (bitAt xs i)) ∧ w = w' := by
  have c0 : w.cell? ⟨g, 0, none⟩ = some (.slice (some ⟨gb, 0, none⟩) N N) := hg.cell 0
  have c1 : w.cell? ⟨gb, (i / 32).toNat, none⟩ = some (.int .u32 (rd xs (i / 32))) := hb.ucell (i / 32) (by omega) (by omega)
  have b0 : 0 ≤ i / 32 := by omega
  clear hN
  go_enter Tryz.func58, Tryz.ntmps58
  go_wp2
  go_ret
  exact ⟨rfl, rfl⟩

def unbits (xs : List Int) (n : Nat) : List Bool := (List.range n).map fun (i : Nat) => bitAt xs i
theorem unbits_set (xs : List Int) (n k : Nat) (hk : k < n) : (unbits xs k ++ List.replicate (n - k) false).set k (bitAt xs k) = unbits xs (k + 1) ++ List.replicate (n - (k + 1)) false := by
  have hl : (unbits xs k).length = k := by simp [unbits]
  rw [List.set_append_right _ _ (by omega), hl, Nat.sub_self, show n - k = (n - (k + 1)) + 1 by omega, List.replicate_succ, List.set_cons_zero]
  simp [unbits, List.range_succ]

set_option maxHeartbeats 1000000 in
theorem toBools (w : World) (g gb : Nat) (n : Nat) (xs : List Int) (N : Nat) (hg : Blk w g 100 #[.slice (some ⟨gb, 0, none⟩) N N, .int .i64 n]) (hb : Blk w gb 78 (nums .u32 xs).toArray) (hN : xs.length = N) (hN2 : N ≤ 1000000000) (h1 : n ≤ 100000000) (h2 : ((n : Int) + 31) / 32 = N) :
    Calls Tryz.prog 30 #[.pointer (some ⟨g, 0, none⟩)] w fun e w' => e = .returned (.slice (some ⟨w.heap.size, 0, none⟩) n n) ∧ Blk w' w.heap.size 4 (bools (unbits xs n)).toArray ∧ Below w.heap.size w w' := by
  have hmk := make_bool n (by omega)
  have HG := Aside0.mk hg
  have HB := Aside0.mk hb
  have HN := Aside0.mk hN
  have HH2 := Aside0.mk h2
  clear hg hb hN h2
  have hglt : g < w.heap.size := HG.out.lt
  have hblt : gb < w.heap.size := HB.out.lt
  go_enter Tryz.func30, Tryz.ntmps30
  go_wp2_with fail
  refine (baSize w g gb n N HG.out).mono ?_
  rintro e w' ⟨rfl, rfl⟩
  go_wp2
  clear hmk
  obtain ⟨w1, hw1⟩ : ∃ w1, w.alloc (.cells (bools (List.replicate n false)).toArray 4) = w1 := ⟨_, rfl⟩
  have hbw : Below w.heap.size w w1 := by rw [← hw1]; exact below_alloc (Below.refl _ _) _
  have BM := Aside0.mk (show Blk w1 w.heap.size 4 (bools (List.replicate n false)).toArray by rw [← hw1]; exact Blk.new _ _ _)
  have HBW := Aside0.mk hbw
  clear hbw
  simp only [hw1]
  clear hw1
  go_loopw [10] (fun v wr => ∃ k : Nat, k ≤ n ∧ v = .int .i64 k ∧ Aside0 (Blk wr w.heap.size 4 (bools (unbits xs k ++ List.replicate (n - k) false)).toArray) ∧ Aside0 (Turn w1 wr w.heap.size)) (fun v _ => n - (intOf v).toNat)
  case atStart => exact ⟨0, by omega, rfl, by simpa [unbits] using BM, ⟨Turn.refl _ _⟩⟩
  case round =>
    obtain ⟨k, hk, rfl, HX, HU⟩ := hrel
    by_cases hlx : k < n
    · have hgr := HU.out.blk (HG.out.below HBW.out hglt) (by omega)
      have hbr := HU.out.blk (HB.out.below HBW.out hblt) (by omega)
      have hxl : (unbits xs k ++ List.replicate (n - k) false).length = n := by simp [unbits]; omega
      have c5 := HX.out.frozen k
      have c4 := HX.out.bcell k (by omega) (by omega)
      simp only [Int.toNat_natCast] at c4
      have HGR := Aside0.mk hgr
      have HBR := Aside0.mk hbr
      clear hgr hbr hxl
      go_wp2_with fail
      refine (baGet wr g gb n xs N k HGR.out HBR.out HN.out hN2 (by omega) (by have := HH2.out; omega)).mono ?_
      rintro e w' ⟨rfl, rfl⟩
      go_wp2
      go_roundw
      case rel => exact ⟨k + 1, by omega, by go_num, ⟨by rw [← unbits_set _ _ _ hlx]; exact HX.out.bset _ _⟩, ⟨HU.out.trans (Turn.set _ _ _ _)⟩⟩
      case measure => simp [intOf]; omega
    · have : k = n := by omega
      subst this
      go_wp2
      go_ret
      refine ⟨rfl, ?_, HBW.out.trans (HU.out.below (Nat.le_refl _))⟩
      simpa using HX.out

theorem maxI (w : World) (x y : Int) : Calls Tryz.prog 103 #[.int .i64 x, .int .i64 y] w fun e w' => e = .returned (.int .i64 (if y < x then x else y)) ∧ w = w' := by
  by_cases h : y < x
  · rw [if_pos h]
    have h' : decide (y < x) = true := decide_eq_true h
    go_enter Tryz.func103, Tryz.ntmps103
    go_wp2
    go_ret
    exact ⟨rfl, rfl⟩
  · rw [if_neg h]
    have h' : decide (y < x) = false := decide_eq_false h
    go_enter Tryz.func103, Tryz.ntmps103
    go_wp2
    go_ret
    exact ⟨rfl, rfl⟩

end Go.Proofs.YthkddnmomjcdaaaGreat.B
