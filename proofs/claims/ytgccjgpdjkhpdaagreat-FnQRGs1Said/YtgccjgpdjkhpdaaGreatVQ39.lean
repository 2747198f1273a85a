import Derived.BigQuiet
import Derived.Laws.BitsAllLaws
import Derived.Test.YtgccjgpdjkhpdaaGreatVQ35
/-! Own texts of this claim, part 39. -/
namespace Go.Proofs.YtgccjgpdjkhpdaaGreat.B
open Go.RowKit Go.Proofs.YtgccjgpdjkhpdaaGreatW.PrintWords Go.Proofs.YtgccjgpdjkhpdaaGreatW.PrintLast Go.Proofs.YtgccjgpdjkhpdaaGreatW.PrintMore
set_option linter.unusedVariables false
set_option linter.unusedSimpArgs false
section
variable {P:Program} {ops:Array Oper} {rest:List Oper} {o:Oper} {a:Act} {Q:Exit->Act->World->Prop} {W W':World}
theorem wpList_allocA (hgd:o.guard=none)(t:TypeId)(ho:o.op=.alloc t)(v:Value)(hrun:(Instr.alloc t true (.tuple #[])).run P W=.ok v W')(k:wpList P ops Q rest (a.put o.dst v) W'):wpList P ops Q (o :: rest) a W:=by
 refine wpList_plain hgd fun K hK=>?_
 unfold Oper.wp
 have e:(execOp a.eval o).run P W=.ok (.value v) W':=by
  unfold execOp
  rw [ho]
  simp only [Sem.run_bind]
  show Result.andThen ((Instr.alloc t true (.tuple #[])).run P W) _=_
  rw [hrun]
  rfl
 rw [e]
 exact hK _ _ k
theorem wpList_buildA (hgd:o.guard=none)(t:TypeId)(parts:Array (Nat×Operand))(ho:o.op=.build t parts)
  (vals:Array (Nat×Value)) (hv:(parts.map fun p=>(p.1,a.eval p.2))=vals) (v:Value) (hrun:(Instr.build t vals).run P W=.ok v W') (k:wpList P ops Q rest (a.put o.dst v) W'):wpList P ops Q (o :: rest) a W:=by
 refine wpList_plain hgd fun K hK=>?_
 subst hv
 unfold Oper.wp
 have e:(execOp a.eval o).run P W=.ok (.value v) W':=by
  unfold execOp
  rw [ho]
  simp only [Sem.run_bind]
  show Result.andThen ((Instr.build t (parts.map fun p=>(p.1,a.eval p.2))).run P W) _=_
  rw [hrun]
  rfl
 rw [e]
 exact hK _ _ k
end
theorem results_cells2 {P:Program}{fn:Func}{p q:Tmp}{ty:TypeId}(h:fn.results=#[.cell p ty,.cell q ty])(tmps:Array Value)(w:World)(g g2:Nat)(t:TypeId)(cs cs2:Array Value)(m:Nat)(el:TypeId)
  (hp:tmps.getD p undef=.pointer (some ⟨g,0,none⟩)) (hq:tmps.getD q undef=.pointer (some ⟨g2,0,none⟩)) (hg:w.heap[g]? = some (.cells cs t (0,0))) (hg2:w.heap[g2]? = some (.cells cs2 t (0,0)))
  (hu:P.underlying ty=some (.array m el)) (hi:(P.info? ty).map (·.size)=some cs.size) (hi2:(P.info? ty).map (·.size)=some cs2.size) :
  (results fn tmps).run P w=.ok (.tuple #[.agg cs,.agg cs2]) w:=by
 have hp':tmps[p]?.getD undef=.pointer (some ⟨g,0,none⟩):=by simpa using hp
 have hq':tmps[q]?.getD undef=.pointer (some ⟨g2,0,none⟩):=by simpa using hq
 simp [results,h,hp',hq',asAddr,run_loadVar_row w g t ty cs (0,0) _ hg hu rfl hi,run_loadVar_row w g2 t ty cs2 (0,0) _ hg2 hu rfl hi2]
theorem setRow_far {w:World}{g k:Nat}(cs:Array Value)(h:k≠g):(w.setRow g cs).heap[k]? = w.heap[k]?:=by
 unfold World.setRow
 rw [Array.getElem?_modify]
 rw [if_neg (Ne.symm h)]
theorem setRow_below {B:Nat}{w0 w:World}{g:Nat}(cs:Array Value)(h:Below B w0 w)(hg:B<=g):Below B w0 (w.setRow g cs):=⟨h.os,h.tape,h.output,by rw [setRow_size];exact h.size,fun k hk=>(setRow_far cs (by omega)).trans (h.block k hk)⟩
def arr40 (l:List Int):Array Value:=(nums .i64 l).toArray
def z40:Array Value:=arr40 (List.replicate 40 0)
def vals40 (l:List Int):Array (Nat×Value):=(l.zipIdx.map fun p=>(p.2,Value.int .i64 p.1)).toArray
def parts40 (l:List Int):Array (Nat×Operand):=(l.zipIdx.map fun p=>(p.2,Operand.const (.int .i64 p.1))).toArray
theorem alloc167 (W:World):(Instr.alloc 167 true (.tuple #[])).run Tryz.prog W=.ok (.pointer (some ⟨W.heap.size,0,none⟩)) (W.alloc (.cells z40 167)):=by kernel_rfl
theorem info167:(Tryz.prog.info? 167).map (·.size)=some 40:=by kernel_rfl
def ecT0:List Int:=[10,16,26,18,24,16,18,22,22,26,30,22,22,24,24,28,28,26,26,26,26,28,28,28,28,28,28,28,28,28,28,28,28,28,28,28,28,28,28,28]
def blT0:List Int:=[1,1,1,2,2,4,4,4,5,5,5,8,9,9,10,10,11,13,14,16,17,17,18,20,21,23,25,26,28,29,31,33,35,37,38,40,43,45,47,49]
theorem ecT0_parts (a:Act):((parts40 ecT0).map fun p=>(p.1,a.eval p.2))=vals40 ecT0:=by kernel_rfl
theorem ecT0_run (W:World):(Instr.build 167 (vals40 ecT0)).run Tryz.prog W=.ok (.agg (arr40 ecT0)) W:=by kernel_rfl
theorem ecT0_size:(arr40 ecT0).size=40:=by kernel_rfl
theorem ecT0_one:(arr40 ecT0).all (·.oneCell')=true:=by kernel_rfl
theorem blT0_parts (a:Act):((parts40 blT0).map fun p=>(p.1,a.eval p.2))=vals40 blT0:=by kernel_rfl
theorem blT0_run (W:World):(Instr.build 167 (vals40 blT0)).run Tryz.prog W=.ok (.agg (arr40 blT0)) W:=by kernel_rfl
theorem blT0_size:(arr40 blT0).size=40:=by kernel_rfl
theorem blT0_one:(arr40 blT0).all (·.oneCell')=true:=by kernel_rfl
def ecT1:List Int:=[7,10,15,20,26,18,20,24,30,18,20,24,26,30,22,24,28,30,28,28,28,28,30,30,26,28,30,30,30,30,30,30,30,30,30,30,30,30,30,30]
def blT1:List Int:=[1,1,1,1,1,2,2,2,2,4,4,4,4,4,6,6,6,6,7,8,8,9,9,10,12,12,12,13,14,15,16,17,18,19,19,20,21,22,24,25]
theorem ecT1_parts (a:Act):((parts40 ecT1).map fun p=>(p.1,a.eval p.2))=vals40 ecT1:=by kernel_rfl
theorem ecT1_run (W:World):(Instr.build 167 (vals40 ecT1)).run Tryz.prog W=.ok (.agg (arr40 ecT1)) W:=by kernel_rfl
theorem ecT1_size:(arr40 ecT1).size=40:=by kernel_rfl
theorem ecT1_one:(arr40 ecT1).all (·.oneCell')=true:=by kernel_rfl
theorem blT1_parts (a:Act):((parts40 blT1).map fun p=>(p.1,a.eval p.2))=vals40 blT1:=by kernel_rfl
theorem blT1_run (W:World):(Instr.build 167 (vals40 blT1)).run Tryz.prog W=.ok (.agg (arr40 blT1)) W:=by kernel_rfl
theorem blT1_size:(arr40 blT1).size=40:=by kernel_rfl
theorem blT1_one:(arr40 blT1).all (·.oneCell')=true:=by kernel_rfl
def ecT2:List Int:=[17,28,22,16,22,28,26,26,24,28,24,28,22,24,24,30,28,28,26,28,30,24,30,30,30,30,30,30,30,30,30,30,30,30,30,30,30,30,30,30]
def blT2:List Int:=[1,1,2,4,4,4,5,6,8,8,11,11,16,16,18,16,19,21,25,25,25,34,30,32,35,37,40,42,45,48,51,54,57,60,63,66,70,74,77,81]
theorem ecT2_parts (a:Act):((parts40 ecT2).map fun p=>(p.1,a.eval p.2))=vals40 ecT2:=by kernel_rfl
theorem ecT2_run (W:World):(Instr.build 167 (vals40 ecT2)).run Tryz.prog W=.ok (.agg (arr40 ecT2)) W:=by kernel_rfl
theorem ecT2_size:(arr40 ecT2).size=40:=by kernel_rfl
theorem ecT2_one:(arr40 ecT2).all (·.oneCell')=true:=by kernel_rfl
theorem blT2_parts (a:Act):((parts40 blT2).map fun p=>(p.1,a.eval p.2))=vals40 blT2:=by kernel_rfl
theorem blT2_run (W:World):(Instr.build 167 (vals40 blT2)).run Tryz.prog W=.ok (.agg (arr40 blT2)) W:=by kernel_rfl
theorem blT2_size:(arr40 blT2).size=40:=by kernel_rfl
theorem blT2_one:(arr40 blT2).all (·.oneCell')=true:=by kernel_rfl
def ecT3:List Int:=[13,22,18,26,18,24,18,22,20,24,28,26,24,20,30,24,28,28,26,30,28,30,30,30,30,28,30,30,30,30,30,30,30,30,30,30,30,30,30,30]
def blT3:List Int:=[1,1,2,2,4,4,6,6,8,8,8,10,12,16,12,17,16,18,21,20,23,23,25,27,29,34,34,35,38,40,43,45,48,51,53,56,59,62,65,68]
theorem ecT3_parts (a:Act):((parts40 ecT3).map fun p=>(p.1,a.eval p.2))=vals40 ecT3:=by kernel_rfl
theorem ecT3_run (W:World):(Instr.build 167 (vals40 ecT3)).run Tryz.prog W=.ok (.agg (arr40 ecT3)) W:=by kernel_rfl
theorem ecT3_size:(arr40 ecT3).size=40:=by kernel_rfl
theorem ecT3_one:(arr40 ecT3).all (·.oneCell')=true:=by kernel_rfl
theorem blT3_parts (a:Act):((parts40 blT3).map fun p=>(p.1,a.eval p.2))=vals40 blT3:=by kernel_rfl
theorem blT3_run (W:World):(Instr.build 167 (vals40 blT3)).run Tryz.prog W=.ok (.agg (arr40 blT3)) W:=by kernel_rfl
theorem blT3_size:(arr40 blT3).size=40:=by kernel_rfl
theorem blT3_one:(arr40 blT3).all (·.oneCell')=true:=by kernel_rfl
set_option maxHeartbeats 4000000 in
set_option maxRecDepth 100000 in
theorem corr101_0 (w:World):Calls Tryz.prog 101 #[.int .i64 0] w fun e w'=>e=.returned (.tuple #[.agg (arr40 ecT0),.agg (arr40 blT0)])/\Below w.heap.size w w':=by
 go_enter Tryz.func101,Tryz.ntmps101
 go_wp2_with (first | ((with_reducible refine gate_dst (N:=2) rfl ?_);refine wpList_allocA rfl 167 rfl _ (alloc167 _) ?_) | ((with_reducible refine gate_dst (N:=3) rfl ?_);refine wpList_allocA rfl 167 rfl _ (alloc167 _) ?_) | ((with_reducible refine gate_dst (N:=11) rfl ?_);refine wpList_buildA rfl 167 (parts40 ecT0) rfl (vals40 ecT0) (ecT0_parts _) _ (ecT0_run _) ?_) | ((with_reducible refine gate_dst (N:=12) rfl ?_);refine wpList_buildA rfl 167 (parts40 blT0) rfl (vals40 blT0) (blT0_parts _) _ (blT0_run _) ?_) | (refine wpList_store_row rfl 167 (.tmp 2) (.tmp 11) rfl w.heap.size (arr40 ecT0) rfl rfl 167 z40 (heap_alloc2_old _ _ _) (by rw [ecT0_size];exact info167) (by rw [ecT0_size];rfl) ecT0_one ?_) | (refine wpList_store_row rfl 167 (.tmp 3) (.tmp 12) rfl (w.heap.size+1) (arr40 blT0) rfl rfl 167 z40 ((setRow_far _ (by omega)).trans (heap_alloc2_new _ _ _)) (by rw [blT0_size];exact info167) (by rw [blT0_size];rfl) blT0_one ?_))
 refine bodyPost_ret (results_cells2 (p:=2) (q:=3) (ty:=167) rfl _ _ w.heap.size (w.heap.size+1) 167 _ _ 40 3 rfl rfl ((setRow_far _ (by omega)).trans (setRow_heap _ _ _ _ 167 _ (heap_alloc2_old _ _ _))) (setRow_heap _ _ _ _ 167 _ ((setRow_far _ (by omega)).trans (heap_alloc2_new _ _ _))) Tryz.underlying167 (by rw [ecT0_size];exact info167) (by rw [blT0_size];exact info167)) rfl ⟨rfl,setRow_below _ (setRow_below _ (below_alloc (below_alloc (Below.refl _ _) _) _) (Nat.le_refl _)) (Nat.le_succ _)⟩
set_option maxHeartbeats 4000000 in
set_option maxRecDepth 100000 in
theorem corr101_1 (w:World):Calls Tryz.prog 101 #[.int .i64 1] w fun e w'=>e=.returned (.tuple #[.agg (arr40 ecT1),.agg (arr40 blT1)])/\Below w.heap.size w w':=by
 go_enter Tryz.func101,Tryz.ntmps101
 go_wp2_with (first | ((with_reducible refine gate_dst (N:=2) rfl ?_);refine wpList_allocA rfl 167 rfl _ (alloc167 _) ?_) | ((with_reducible refine gate_dst (N:=3) rfl ?_);refine wpList_allocA rfl 167 rfl _ (alloc167 _) ?_) | ((with_reducible refine gate_dst (N:=7) rfl ?_);refine wpList_buildA rfl 167 (parts40 ecT1) rfl (vals40 ecT1) (ecT1_parts _) _ (ecT1_run _) ?_) | ((with_reducible refine gate_dst (N:=8) rfl ?_);refine wpList_buildA rfl 167 (parts40 blT1) rfl (vals40 blT1) (blT1_parts _) _ (blT1_run _) ?_) | (refine wpList_store_row rfl 167 (.tmp 2) (.tmp 7) rfl w.heap.size (arr40 ecT1) rfl rfl 167 z40 (heap_alloc2_old _ _ _) (by rw [ecT1_size];exact info167) (by rw [ecT1_size];rfl) ecT1_one ?_) | (refine wpList_store_row rfl 167 (.tmp 3) (.tmp 8) rfl (w.heap.size+1) (arr40 blT1) rfl rfl 167 z40 ((setRow_far _ (by omega)).trans (heap_alloc2_new _ _ _)) (by rw [blT1_size];exact info167) (by rw [blT1_size];rfl) blT1_one ?_))
 refine bodyPost_ret (results_cells2 (p:=2) (q:=3) (ty:=167) rfl _ _ w.heap.size (w.heap.size+1) 167 _ _ 40 3 rfl rfl ((setRow_far _ (by omega)).trans (setRow_heap _ _ _ _ 167 _ (heap_alloc2_old _ _ _))) (setRow_heap _ _ _ _ 167 _ ((setRow_far _ (by omega)).trans (heap_alloc2_new _ _ _))) Tryz.underlying167 (by rw [ecT1_size];exact info167) (by rw [blT1_size];exact info167)) rfl ⟨rfl,setRow_below _ (setRow_below _ (below_alloc (below_alloc (Below.refl _ _) _) _) (Nat.le_refl _)) (Nat.le_succ _)⟩
set_option maxHeartbeats 4000000 in
set_option maxRecDepth 100000 in
theorem corr101_2 (w:World):Calls Tryz.prog 101 #[.int .i64 2] w fun e w'=>e=.returned (.tuple #[.agg (arr40 ecT2),.agg (arr40 blT2)])/\Below w.heap.size w w':=by
 go_enter Tryz.func101,Tryz.ntmps101
 go_wp2_with (first | ((with_reducible refine gate_dst (N:=2) rfl ?_);refine wpList_allocA rfl 167 rfl _ (alloc167 _) ?_) | ((with_reducible refine gate_dst (N:=3) rfl ?_);refine wpList_allocA rfl 167 rfl _ (alloc167 _) ?_) | ((with_reducible refine gate_dst (N:=17) rfl ?_);refine wpList_buildA rfl 167 (parts40 ecT2) rfl (vals40 ecT2) (ecT2_parts _) _ (ecT2_run _) ?_) | ((with_reducible refine gate_dst (N:=18) rfl ?_);refine wpList_buildA rfl 167 (parts40 blT2) rfl (vals40 blT2) (blT2_parts _) _ (blT2_run _) ?_) | (refine wpList_store_row rfl 167 (.tmp 2) (.tmp 17) rfl w.heap.size (arr40 ecT2) rfl rfl 167 z40 (heap_alloc2_old _ _ _) (by rw [ecT2_size];exact info167) (by rw [ecT2_size];rfl) ecT2_one ?_) | (refine wpList_store_row rfl 167 (.tmp 3) (.tmp 18) rfl (w.heap.size+1) (arr40 blT2) rfl rfl 167 z40 ((setRow_far _ (by omega)).trans (heap_alloc2_new _ _ _)) (by rw [blT2_size];exact info167) (by rw [blT2_size];rfl) blT2_one ?_))
 refine bodyPost_ret (results_cells2 (p:=2) (q:=3) (ty:=167) rfl _ _ w.heap.size (w.heap.size+1) 167 _ _ 40 3 rfl rfl ((setRow_far _ (by omega)).trans (setRow_heap _ _ _ _ 167 _ (heap_alloc2_old _ _ _))) (setRow_heap _ _ _ _ 167 _ ((setRow_far _ (by omega)).trans (heap_alloc2_new _ _ _))) Tryz.underlying167 (by rw [ecT2_size];exact info167) (by rw [blT2_size];exact info167)) rfl ⟨rfl,setRow_below _ (setRow_below _ (below_alloc (below_alloc (Below.refl _ _) _) _) (Nat.le_refl _)) (Nat.le_succ _)⟩
set_option maxHeartbeats 4000000 in
set_option maxRecDepth 100000 in
theorem corr101_3 (w:World):Calls Tryz.prog 101 #[.int .i64 3] w fun e w'=>e=.returned (.tuple #[.agg (arr40 ecT3),.agg (arr40 blT3)])/\Below w.heap.size w w':=by
 go_enter Tryz.func101,Tryz.ntmps101
 go_wp2_with (first | ((with_reducible refine gate_dst (N:=2) rfl ?_);refine wpList_allocA rfl 167 rfl _ (alloc167 _) ?_) | ((with_reducible refine gate_dst (N:=3) rfl ?_);refine wpList_allocA rfl 167 rfl _ (alloc167 _) ?_) | ((with_reducible refine gate_dst (N:=15) rfl ?_);refine wpList_buildA rfl 167 (parts40 ecT3) rfl (vals40 ecT3) (ecT3_parts _) _ (ecT3_run _) ?_) | ((with_reducible refine gate_dst (N:=16) rfl ?_);refine wpList_buildA rfl 167 (parts40 blT3) rfl (vals40 blT3) (blT3_parts _) _ (blT3_run _) ?_) | (refine wpList_store_row rfl 167 (.tmp 2) (.tmp 15) rfl w.heap.size (arr40 ecT3) rfl rfl 167 z40 (heap_alloc2_old _ _ _) (by rw [ecT3_size];exact info167) (by rw [ecT3_size];rfl) ecT3_one ?_) | (refine wpList_store_row rfl 167 (.tmp 3) (.tmp 16) rfl (w.heap.size+1) (arr40 blT3) rfl rfl 167 z40 ((setRow_far _ (by omega)).trans (heap_alloc2_new _ _ _)) (by rw [blT3_size];exact info167) (by rw [blT3_size];rfl) blT3_one ?_))
 refine bodyPost_ret (results_cells2 (p:=2) (q:=3) (ty:=167) rfl _ _ w.heap.size (w.heap.size+1) 167 _ _ 40 3 rfl rfl ((setRow_far _ (by omega)).trans (setRow_heap _ _ _ _ 167 _ (heap_alloc2_old _ _ _))) (setRow_heap _ _ _ _ 167 _ ((setRow_far _ (by omega)).trans (heap_alloc2_new _ _ _))) Tryz.underlying167 (by rw [ecT3_size];exact info167) (by rw [blT3_size];exact info167)) rfl ⟨rfl,setRow_below _ (setRow_below _ (below_alloc (below_alloc (Below.refl _ _) _) _) (Nat.le_refl _)) (Nat.le_succ _)⟩
end Go.Proofs.YtgccjgpdjkhpdaaGreat.B
namespace Go.Proofs.YtgccjgpdjkhpdaaGreat.B
open Go.RowKit Go.Proofs.YtgccjgpdjkhpdaaGreatW.PrintWords Go.Proofs.YtgccjgpdjkhpdaaGreatW.PrintLast Go.Proofs.YtgccjgpdjkhpdaaGreatW.PrintMore
set_option linter.unusedVariables false
set_option linter.unusedSimpArgs false
theorem arr40_one (l:List Int):(arr40 l).all (·.oneCell')=true:=by
 rw [Array.all_eq_true_iff_forall_mem]
 intro x hx
 unfold arr40 nums at hx
 obtain⟨y,_,rfl⟩:=List.mem_map.1 (by simpa using hx)
 rfl
theorem arr40_len (l:List Int):(arr40 l).size=l.length:=by simp [arr40,nums]
theorem z40_size:z40.size=40:=by rw [z40,arr40_len];simp
set_option maxHeartbeats 2000000 in
set_option maxRecDepth 8000 in
theorem corr55' (w:World)(v l:Nat)(E B:List Int)(hE:E.length=40)(hB:B.length=40)(hv:1<=v/\v<=40)
  (k:∀ W,Calls Tryz.prog 101 #[.int .i64 (l:Int)] W fun e w'=>e=.returned (.tuple #[.agg (arr40 E),.agg (arr40 B)])/\Below W.heap.size W w') :
  Calls Tryz.prog 55 #[.int .i64 (v:Int),.int .i64 (l:Int)] w fun e w'=>e=.returned (.tuple #[.int .i64 (E.getD (v-1) 0),.int .i64 (B.getD (v-1) 0)])/\Below w.heap.size w w':=by
 obtain⟨i,hi⟩:∃ i,v-1=i:=⟨_,rfl⟩
 rw [hi]
 obtain⟨ee,hee⟩:∃ ee,E.getD i 0=ee:=⟨_,rfl⟩
 obtain⟨bb,hbb⟩:∃ bb,B.getD i 0=bb:=⟨_,rfl⟩
 rw [hee,hbb]
 have HEE:=Aside0.mk hee
 have HBB:=Aside0.mk hbb
 have HII:=Aside0.mk hi
 have HE:=Aside0.mk hE
 have HBl:=Aside0.mk hB
 have hv1:1<=v:=hv.1
 have hv2:v<=40:=hv.2
 have K:=Aside0.mk k
 clear hE hB hv k hee hbb hi
 go_enter Tryz.func55,Tryz.ntmps55
 go_wp2_with fail
 refine (K.out w).mono ?_
 rintro e w1 ⟨rfl,hb1⟩
 have HB1:=Aside0.mk hb1
 have hz:w.heap.size<=w1.heap.size:=hb1.size
 clear hb1
 obtain⟨w2,hw2⟩:∃ w2,w2=(((w1.alloc (.cells z40 167)).alloc (.cells z40 167)).setRow w1.heap.size (arr40 E)).setRow (w1.heap.size+1) (arr40 B):=⟨_,rfl⟩
 have h1:Blk w2 w1.heap.size 167 (arr40 E):=by rw [hw2];exact (setRow_far _ (by omega)).trans (setRow_heap _ _ _ _ 167 _ (heap_alloc2_old _ _ _))
 have h2:Blk w2 (w1.heap.size+1) 167 (arr40 B):=by rw [hw2];exact setRow_heap _ _ _ _ 167 _ ((setRow_far _ (by omega)).trans (heap_alloc2_new _ _ _))
 have HB2:=Aside0.mk (show Below w.heap.size w w2 by rw [hw2];exact setRow_below _ (setRow_below _ ((HB1.out.alloc hz _).alloc (by simp;omega) _) hz) (by omega))
 have hi40:i<40:=by have:=HII.out;omega
 have hvi:(v:Int)-1=(i:Int):=by have:=HII.out;omega
 have c1:w2.cell? ⟨w1.heap.size,i,none⟩=some (.int .i64 (E.getD i 0)):=by
  have:=Blk.ucell (xs:=E) h1 (i:Int) (by omega) (by rw [HE.out];omega)
  rw [Int.toNat_natCast] at this
  rw [this];unfold rd;rw [Int.toNat_natCast]
 have c2:w2.cell? ⟨w1.heap.size+1,i,none⟩=some (.int .i64 (B.getD i 0)):=by
  have:=Blk.ucell (xs:=B) h2 (i:Int) (by omega) (by rw [HBl.out];omega)
  rw [Int.toNat_natCast] at this
  rw [this];unfold rd;rw [Int.toNat_natCast]
 rw [HEE.out] at c1
 rw [HBB.out] at c2
 have HW2:=Aside0.mk hw2
 have HS1:=Aside0.mk (heap_alloc2_old w1 (.cells z40 167) (.cells z40 167))
 have HS2:=Aside0.mk (show (((w1.alloc (.cells z40 167)).alloc (.cells z40 167)).setRow w1.heap.size (arr40 E)).heap[w1.heap.size+1]? = some (.cells z40 167 (0,0)) from (setRow_far _ (by omega)).trans (heap_alloc2_new _ _ _))
 have HI1:=Aside0.mk (show (Tryz.prog.info? 167).map (·.size)=some (arr40 E).size by rw [arr40_len,HE.out];exact info167)
 have HI2:=Aside0.mk (show (Tryz.prog.info? 167).map (·.size)=some (arr40 B).size by rw [arr40_len,HBl.out];exact info167)
 have HZ1:=Aside0.mk (show z40.size=(arr40 E).size by rw [arr40_len,HE.out];exact z40_size)
 have HZ2:=Aside0.mk (show z40.size=(arr40 B).size by rw [arr40_len,HBl.out];exact z40_size)
 clear h1 h2 hw2
 go_wp2_with (first | ((with_reducible refine gate_dst (N:=6) rfl ?_);refine wpList_allocA rfl 167 rfl _ (alloc167 _) ?_) | ((with_reducible refine gate_dst (N:=7) rfl ?_);refine wpList_allocA rfl 167 rfl _ (alloc167 _) ?_) | (refine wpList_store_row rfl 167 (.tmp 6) (.tmp 11) rfl w1.heap.size (arr40 E) rfl rfl 167 z40 HS1.out HI1.out HZ1.out (arr40_one _) ?_) | (refine wpList_store_row (g:=w1.heap.size+1) (cells:=arr40 B) (t:=167) (old:=z40) ?s1 167 (.tmp 7) (.tmp 12) ?s2 ?s3 ?s4 HS2.out HI2.out HZ2.out (arr40_one _) ?_;(case s1=>rfl);(case s2=>rfl);(case s3=>(first | rfl | simp [Act.eval,Act.put]));(case s4=>(first | rfl | simp [Act.eval,Act.put]))))
 rw [<- HW2.out]
 have hvw:IntKind.i64.wrap ((v:Int)-1)=(i:Int):=by rw [hvi];exact IntWalk.i64_in _ (by omega)
 have hq0:(0:Int)<=(i:Int):=by omega
 have hq1:(i:Int)<40:=by omega
 clear hvi
 go_quiet (fail)
 go_wp2
 go_ret2
 exact⟨rfl,pw_below_drewN HB2.out _⟩
def ecTab (l:Nat):List Int:=if l=0 then ecT0 else if l=1 then ecT1 else if l=2 then ecT2 else ecT3
def blTab (l:Nat):List Int:=if l=0 then blT0 else if l=1 then blT1 else if l=2 then blT2 else blT3
theorem corr101 (W:World)(l:Nat)(h:l<4):Calls Tryz.prog 101 #[.int .i64 (l:Int)] W fun e w'=>e=.returned (.tuple #[.agg (arr40 (ecTab l)),.agg (arr40 (blTab l))])/\Below W.heap.size W w':=by
 have hl:l=0\/l=1\/l=2\/l=3:=by omega
 rcases hl with rfl | rfl | rfl | rfl
 ·exact corr101_0 W
 ·exact corr101_1 W
 ·exact corr101_2 W
 ·exact corr101_3 W
theorem tab_look:∀ v:Fin 40,∀ l:Fin 4,(ecTab l.val).getD v.val 0=(lvE (v.val+1) l.val:Int)/\(blTab l.val).getD v.val 0=((lvC (v.val+1) l.val+lvC2 (v.val+1) l.val:Nat):Int):=by decide +kernel
theorem tab_len:∀ l:Fin 4,(ecTab l.val).length=40/\(blTab l.val).length=40:=by decide +kernel
theorem corr55 (w:World)(v l:Nat)(hv:1<=v/\v<=40)(hl:l<4) :
  Calls Tryz.prog 55 #[.int .i64 (v:Int),.int .i64 (l:Int)] w fun e w'=>e=.returned (.tuple #[.int .i64 (lvE v l:Int),.int .i64 ((lvC v l+lvC2 v l:Nat):Int)])/\Below w.heap.size w w':=by
 have ht:=tab_look ⟨v-1,by omega⟩ ⟨l,hl⟩
 have hlen:=tab_len ⟨l,hl⟩
 simp only [show v-1+1=v by omega] at ht
 have:=corr55' w v l (ecTab l) (blTab l) hlen.1 hlen.2 hv (fun W=>corr101 W l hl)
 rw [ht.1,ht.2] at this
 exact this
theorem total_look:∀ v:Fin 40,F.spec_QRTotal.f 60 ((v.val+1:Nat):Int)=some ((roomN (v.val+1)/8:Nat):Int):=by decide +kernel
theorem total56 (w:World)(v:Nat)(hv:1<=v/\v<=40):Calls Tryz.prog 56 #[.int .i64 (v:Int)] w fun e w'=>e=.returned (.int .i64 ((roomN v/8:Nat):Int))/\Below w.heap.size w w':=by
 have h:=total_look ⟨v-1,by omega⟩
 simp only [show v-1+1=v by omega] at h
 refine (F.spec_QRTotal.calls 60 v _ w h).mono ?_
 rintro e w' ⟨rfl,hb⟩
 exact⟨rfl,hb⟩
def roomD (v l:Nat):Nat:=lvD v l*(lvC v l+lvC2 v l)+lvC2 v l
theorem words22 (w:World)(v l:Nat)(hv:1<=v/\v<=40)(hl:l<4):Calls Tryz.prog 22 #[.int .i64 (v:Int),.int .i64 (l:Int)] w fun e w'=>e=.returned (.int .i64 (roomD v l:Int))/\Below w.heap.size w w':=by
 have k1:=corr55 w v l hv hl
 have L:=lay_at v l hv hl
 have h1:=L.tot
 have h2:=(tot_row v hv).2
 have K2:=Aside0.mk (fun W=>total56 W v hv)
 obtain⟨e,he⟩:∃ e,lvE v l=e:=⟨_,rfl⟩
 obtain⟨n,hn⟩:∃ n,lvC v l+lvC2 v l=n:=⟨_,rfl⟩
 obtain⟨T,hT⟩:∃ T,roomN v/8=T:=⟨_,rfl⟩
 obtain⟨q,hq⟩:∃ q,e*n=q:=⟨_,rfl⟩
 have hr:T=roomD v l+q:=by unfold roomD;rw [he,hn,hT,hq] at h1;rw [hn];omega
 obtain⟨r,hrr⟩:∃ r,roomD v l=r:=⟨_,rfl⟩
 rw [he,hn] at k1
 rw [hrr] at hr ⊢
 rw [hT] at K2
 have hT5:T<=5000:=by omega
 have hqw:wrap64 ((e:Int)*(n:Int))=(q:Int):=by
  have:(e:Int)*(n:Int)=(q:Int):=by rw [<- hq];simp
  rw [this];unfold wrap64;omega
 have hrw:(T:Int)-(q:Int)=(r:Int):=by omega
 clear L h1 h2 he hn hT hq hrr hr
 go_enter Tryz.func22,Tryz.ntmps22
 go_wp2_with (first | (go_at_call 55;refine k1.mono ?_;rintro e w1 ⟨rfl,hb1⟩;have HB1:=Aside0.mk hb1;clear hb1) | (go_at_call 56;refine (K2.out _).mono ?_;rintro e w2 ⟨rfl,hb2⟩;have HB2:=Aside0.mk (HB1.out.trans (hb2.mono HB1.out.size));clear hb2))
 go_ret
 exact⟨by rfl,HB2.out⟩
theorem BOwn.reads {w:World}{base:Nat}{v:Value}{xs:List Bool}(h:BOwn w base v xs)(hl:xs.length<=100000000):∃ A c,v=.slice A xs.length c/\xs.length<=c/\Kd.C Kd.bool w A xs.length xs:=by
 have hr:Kd.R Kd.bool 4 w base (fun _=>True) v xs:=Kd.R_of_own h (fun _ _=>trivial)
 exact Kd.R_reads hr
theorem ints_append (a b:List Nat):ints (a++b)=ints a++ints b:=by simp [ints]
theorem qrAddI (w0 w:World)(base n k:Nat)(v:Value)(xs:List Bool)(a b:Int)(ha:a=(n:Int))(hb:b=(k:Int))(hO:BOwn w base v xs)(hB:Below base w0 w)(hbase:base<=w.heap.size)(hn:n<2147483648)(hk:k<=60)(hxl:xs.length<=10000000) :
  Calls Tryz.prog 66 #[v,.int .i64 a,.int .i64 b] w fun e w'=>∃ v',e=.returned v'/\BOwn w' base v' (xs++natBits n k)/\Below base w0 w'/\GrowR w w' v v':=by
 subst ha hb
 exact qrAdd w0 w base n k v xs hO hB hbase hn hk hxl
theorem gm'_half (m p:Nat)(F:Fld m p):∀ (k a c:Nat),gm' m p (k+1) a c=gl m p (gm' m p k a (c/2)) ^^^ (if c.testBit 0 then a else 0):=by
 intro k
 induction k with
 | zero=>intro a c;simp [gm',gl_zero,glN]
 | succ k ih=>
  intro a c
  rw [gm',ih a c]
  conv=>rhs;rw [gm',gl_add]
  have e:(c/2).testBit k=c.testBit (k+1):=by rw [Nat.testBit_div_two]
  rw [e]
  have e2:gl m p (if c.testBit (k+1) then glN m p k a else 0)=if c.testBit (k+1) then glN m p (k+1) a else 0:=by
   split
   ·rfl
   ·exact gl_zero
  rw [e2]
  rw [Nat.xor_assoc,Nat.xor_assoc,Nat.xor_comm (if c.testBit 0 then a else 0)]
def hm (a b k:Nat):Nat:=gm' 8 285 k a (b/2 ^ (8-k))
theorem hm_zero (a b:Nat):hm a b 0=0:=rfl
theorem hm_all (a b:Nat):hm a b 8=gm 8 285 a b:=by unfold hm gm;rw [Nat.sub_self,Nat.pow_zero,Nat.div_one]
theorem hm_next (a b k:Nat)(h:k<8):hm a b (k+1)=gl 8 285 (hm a b k) ^^^ (if b.testBit (7-k) then a else 0):=by
 unfold hm
 rw [gm'_half 8 285 fQR,Nat.div_div_eq_div_mul,show 2 ^ (8-(k+1))*2=2 ^ (8-k) by rw [<- Nat.pow_succ];congr 1;omega,Nat.testBit_div_two_pow,Nat.zero_add,show 8-(k+1)=7-k by omega]
theorem hm_lt (a b k:Nat)(ha:a<256):hm a b k<256:=gm'_lt fQR k a _ ha
theorem gl_byte (x:Nat)(h:x<256):gl 8 285 x=if 255<2*x then (2*x) ^^^ 285 else 2*x:=by
 have key:∀ y:Fin 256,gl 8 285 y.val=if 255<2*y.val then (2*y.val) ^^^ 285 else 2*y.val:=by decide +kernel
 exact key ⟨x,h⟩
theorem times120 (w:World)(a b:Nat)(ha:a<256)(hb:b<256):Calls Tryz.prog 120 #[.int .i64 (a:Int),.int .i64 (b:Int)] w fun e w'=>e=.returned (.int .i64 ((gm 8 285 a b:Nat):Int))/\w=w':=by
 obtain⟨R,hR⟩:∃ R,gm 8 285 a b=R:=⟨_,rfl⟩
 rw [hR]
 have HR:=Aside0.mk (show hm a b 8=R by rw [hm_all,hR])
 have HA:=Aside0.mk ha
 have HB:=Aside0.mk hb
 clear hR
 go_enter Tryz.func120,Tryz.ntmps120
 go_wp2
 go_loop [5,6] (fun vo vi=>∃ k x:Nat,k<=8/\vi=.int .i64 (7-(k:Int))/\vo=.int .i64 (x:Int)/\Aside0 (hm a b k=x)) (fun _ vi=>(intOf vi+1).toNat)
 case atStart=>exact⟨0,0,by omega,by go_num,rfl,⟨hm_zero a b⟩⟩
 case round=>
  obtain⟨k,x,hk,rfl,rfl,HX⟩:=hrel
  by_cases hk8:k<8
  ·have hx:x<256:=by rw [<- HX.out];exact hm_lt a b k HA.out
   obtain⟨j,hj⟩:∃ j:Nat,7-k=j:=⟨_,rfl⟩
   have hj7:j<=7:=by omega
   have hji:(7:Int)-(k:Int)=(j:Int):=by omega
   have hn:=hm_next a b k hk8
   rw [HX.out,gl_byte x hx,hj] at hn
   obtain⟨t,ht⟩:∃ t,b.testBit j=t:=⟨_,rfl⟩
   have hbit:=bit_div b j (by omega)
   rw [ht] at hn hbit
   rw [hji]
   have HJ:=Aside0.mk hji
   clear hj hji ht
   by_cases hx2:255<2*x
   ·rw [if_pos hx2] at hn
    have e1:=i64_xor_nat (2*x) 285 (by omega) (by omega)
    obtain⟨y,hy⟩:∃ y,(2*x) ^^^ 285=y:=⟨_,rfl⟩
    rw [hy] at e1 hn
    have e1':Go.bits .xor .i64 ((x:Int)*2) 285=(y:Int):=by rw [<- e1];congr 1;omega
    have hy9:y<65536:=by rw [<- hy];exact Nat.xor_lt_two_pow (n:=16) (by omega) (by omega)
    cases t
    ·rw [if_neg (by decide),Nat.xor_zero] at hn
     have HN:=Aside0.mk hn
     clear hn e1 hy
     go_wp2
     clear hbit e1'
     go_round
     case rel=>exact⟨k+1,y,by omega,by have:=HJ.out;go_num,rfl,HN⟩
     case measure=>simp [intOf]<;>omega
    ·rw [if_pos rfl] at hn
     have e2:=i64_xor_nat y a (by omega) (by omega)
     obtain⟨z,hz⟩:∃ z,y ^^^ a=z:=⟨_,rfl⟩
     rw [hz] at e2 hn
     have HN:=Aside0.mk hn
     clear hn e1 hy hz
     go_wp2
     clear hbit e1' e2
     go_round
     case rel=>exact⟨k+1,z,by omega,by have:=HJ.out;go_num,rfl,HN⟩
     case measure=>simp [intOf]<;>omega
   ·rw [if_neg hx2] at hn
    obtain⟨y,hy⟩:∃ y,2*x=y:=⟨_,rfl⟩
    rw [hy] at hn
    have e1':(x:Int)*2=(y:Int):=by omega
    have hy2:y<=255:=by omega
    cases t
    ·rw [if_neg (by decide),Nat.xor_zero] at hn
     have HN:=Aside0.mk hn
     clear hn hy
     go_wp2
     clear hbit e1'
     go_round
     case rel=>exact⟨k+1,y,by omega,by have:=HJ.out;go_num,rfl,HN⟩
     case measure=>simp [intOf]<;>omega
    ·rw [if_pos rfl] at hn
     have e2:=i64_xor_nat y a (by omega) (by omega)
     obtain⟨z,hz⟩:∃ z,y ^^^ a=z:=⟨_,rfl⟩
     rw [hz] at e2 hn
     have HN:=Aside0.mk hn
     clear hn hy hz
     go_wp2
     clear hbit e1' e2
     go_round
     case rel=>exact⟨k+1,z,by omega,by have:=HJ.out;go_num,rfl,HN⟩
     case measure=>simp [intOf]<;>omega
  ·have:k=8:=by omega
   subst this
   go_wp2
   go_ret
   exact⟨by rw [<- HR.out,HX.out];rfl,rfl⟩
theorem make_i64 (n:Nat)(h:n<=1000000)(w:World):(Instr.makeSlice 93 (.int .i64 (n:Int)) (.int .i64 (n:Int))).run Tryz.prog w=.ok (.slice (some ⟨w.heap.size,0,none⟩) n n) (w.alloc (.cells (nums .i64 (ints (List.replicate n 0))).toArray 3)):=by
 obtain⟨i,hi,hz,hs,hb⟩:=info_parts info3i
 have:=run_make_rowN (P:=Tryz.prog) 93 3 i (.int .i64 0) Tryz.underlying93 hi hz .i64 .i64 n n (Nat.le_refl _) (by rw [hb];omega) (by omega) w
 have e:madeCells (Value.int .i64 0).cells (n*1)=(nums .i64 (ints (List.replicate n 0))).toArray:=by
  apply Array.toList_inj.1
  rw [Nat.mul_one]
  exact (toList_madeCells_one _ _).trans (by simp [nums,ints])
 rw [this,hs,e]
theorem gstep_get (s:List Nat)(root k:Nat)(hk:k<s.length):(gstep 8 285 s root).getD k 0=gm 8 285 (s.getD k 0) root ^^^ s.getD (k+1) 0:=by
 have hl:(gstep 8 285 s root).length=s.length:=gstep_len s root (by omega)
 rw [List.getD_eq_getElem?_getD,List.getElem?_eq_getElem (by omega),Option.getD_some]
 unfold gstep
 rw [List.getElem_zipWith,List.getElem_map]
 have e1:s.getD k 0=s[k]:=by rw [List.getD_eq_getElem?_getD,List.getElem?_eq_getElem hk];rfl
 rw [e1]
 congr 1
 by_cases h:k+1<s.length
 ·rw [List.getElem_append_left (by rw [List.length_tail];omega),List.getElem_tail,List.getD_eq_getElem?_getD,List.getElem?_eq_getElem h]
  rfl
 ·rw [List.getElem_append_right (by rw [List.length_tail];omega),List.getD_eq_getElem?_getD,List.getElem?_eq_none (by omega)]
  simp
def mid (u s:List Nat)(k:Nat):List Nat:=u.take k++s.drop k
theorem mid_zero (u s:List Nat):mid u s 0=s:=by simp [mid]
theorem mid_all (u s:List Nat)(h:u.length=s.length):mid u s s.length=u:=by unfold mid;rw [List.drop_length,List.append_nil,List.take_of_length_le (by omega)]
theorem mid_len (u s:List Nat)(k:Nat)(h:u.length=s.length)(hk:k<=s.length):(mid u s k).length=s.length:=by simp [mid];omega
theorem mid_get (u s:List Nat)(k j:Nat)(h:u.length=s.length)(hk:k<=s.length)(hj:k<=j):(mid u s k).getD j 0=s.getD j 0:=by
 unfold mid
 rw [List.getD_eq_getElem?_getD,List.getD_eq_getElem?_getD,List.getElem?_append_right (by simp;omega),List.getElem?_drop]
 congr 2
 simp;omega
theorem mid_set (u s:List Nat)(k:Nat)(h:u.length=s.length)(hk:k<s.length):(mid u s k).set k (u.getD k 0)=mid u s (k+1):=by
 unfold mid
 have hl:(u.take k).length=k:=by simp;omega
 rw [List.set_append_right _ _ (by omega),hl,Nat.sub_self,List.drop_eq_getElem_cons hk,List.set_cons_zero,List.take_succ_eq_append_getElem (by omega),List.append_assoc]
 congr 1
 rw [List.getD_eq_getElem?_getD,List.getElem?_eq_getElem (by omega)]
 rfl
theorem gens_snoc:∀ (rs s:List Nat) (r:Nat),gens 8 285 s (rs++[r])=gstep 8 285 (gens 8 285 s rs) r:=by
 intro rs
 induction rs with
 | nil=>intro s r;rfl
 | cons a l ih=>intro s r;exact ih _ r
def gen0 (ec:Nat):List Nat:=List.replicate (ec-1) 0++[1]
def genTo (ec i:Nat):List Nat:=gens 8 285 (gen0 ec) ((List.range i).map (gx 8 285))
theorem genTo_succ (ec i:Nat):genTo ec (i+1)=gstep 8 285 (genTo ec i) (gx 8 285 i):=by
 unfold genTo
 rw [List.range_succ,List.map_append,List.map_cons,List.map_nil,gens_snoc]
theorem gen0_len (ec:Nat)(h:1<=ec):(gen0 ec).length=ec:=by simp [gen0];omega
theorem genTo_len (ec i:Nat)(h:1<=ec):(genTo ec i).length=ec:=by
 unfold genTo
 rw [gens_len _ _ (by rw [gen0_len ec h];omega),gen0_len ec h]
theorem gen0_lt (ec:Nat):AllLt 8 (gen0 ec):=by
 intro x hx
 rcases List.mem_append.1 hx with h | h
 ·rw [List.eq_of_mem_replicate h];decide
 ·rw [List.mem_singleton.1 h];decide
theorem genTo_lt (ec i:Nat):AllLt 8 (genTo ec i):=gens_lt fQR _ _ (gen0_lt ec)
theorem gen_root (ec i:Nat)(h:1<=ec)(hi:i<ec):pev 8 285 (gx 8 285 i) (genTo ec ec)=gpow 8 285 (gx 8 285 i) ec:=by
 obtain⟨n,rfl⟩:∃ n,ec=n+1:=⟨ec-1,by omega⟩
 have hlt:AllLt 8 ((List.range n).map (gx 8 285)):=by
  intro x hx
  obtain⟨j,_,rfl⟩:=List.mem_map.1 hx
  exact gx_lt fQR j
 have hm:gx 8 285 i∈(List.range n).map (gx 8 285)\/gx 8 285 i=gx 8 285 n:=by
  rcases Nat.lt_or_ge i n with h | h
  ·exact .inl (List.mem_map.2 ⟨i,List.mem_range.2 h,rfl⟩)
  ·exact .inr (by rw [show i=n by omega])
 have:=(gens_root fQR ((List.range n).map (gx 8 285)) (gx 8 285 n) (gx 8 285 i) hlt (gx_lt fQR n) (gx_lt fQR i) hm).1
 unfold genTo gen0
 rw [List.range_succ,List.map_append,List.map_cons,List.map_nil]
 simpa using this
set_option maxHeartbeats 2000000 in
set_option maxRecDepth 8000 in
theorem gen119 (w:World)(ec:Nat)(h:1<=ec)(h2:ec<=1000) :
  Calls Tryz.prog 119 #[.int .i64 (ec:Int)] w fun e w'=>e=.returned (.slice (some ⟨w.heap.size,0,none⟩) ec ec)/\IBlk w' w.heap.size (genTo ec ec)/\Below w.heap.size w w':=by
 have hmk:=make_i64 ec (by omega) w
 obtain⟨g,hg⟩:∃ g,g=w.heap.size:=⟨_,rfl⟩
 obtain⟨w1,hw1⟩:∃ w1,w1=w.alloc (.cells (nums .i64 (ints (List.replicate ec 0))).toArray 3):=⟨_,rfl⟩
 rw [<- hw1,<- hg] at hmk
 rw [<- hg]
 have h0:IBlk w1 g (List.replicate ec 0):=by rw [hw1,hg];exact Blk.new _ _ _
 obtain⟨e1,he1⟩:∃ e1,ec-1=e1:=⟨_,rfl⟩
 have hei:(ec:Int)-1=(e1:Int):=by omega
 have hel:e1<ec:=by omega
 have y1:w1.cell? ⟨g,e1,none⟩=some (.int .i64 0):=by
  have:=h0.cell e1 (by simp;omega)
  rw [List.getD_eq_getElem?_getD,List.getElem?_eq_getElem (by simp;omega)] at this
  simpa using this
 have y2:w1.frozen? ⟨g,e1,none⟩=false:=Blk.frozen h0 e1
 have HB:=Aside0.mk (show IBlk (w1.setCell ⟨g,e1,none⟩ (.int .i64 1)) g (genTo ec 0) by
  have:=h0.set e1 1
  have e:(List.replicate ec 0).set e1 1=genTo ec 0:=by
   unfold genTo gen0
   simp only [List.range_zero,List.map_nil,gens]
   rw [he1,show ec=e1+1 by omega,List.replicate_succ',List.set_append_right _ _ (by simp),List.length_replicate,Nat.sub_self]
   rfl
  rw [e] at this
  exact this)
 have HBel:=Aside0.mk (show Below g w (w1.setCell ⟨g,e1,none⟩ (.int .i64 1)) by
  rw [hw1,hg]
  exact Below.setc (below_alloc (Below.refl _ _) _) (Nat.le_refl _) _)
 clear hw1 hg he1 h0
 go_enter Tryz.func119,Tryz.ntmps119
 go_wp2_with fail
 clear hmk y1 y2 hei
 go_loopw [4,5] (fun vr vi wr=>∃ i:Nat,vi=.int .i64 (i:Int)/\vr=.int .i64 ((gx 8 285 i:Nat):Int)/\i<=ec/\Aside0 (IBlk wr g (genTo ec i))/\Aside0 (Below g w wr)) (fun _ vi _=>(ec-intOf vi).toNat)
 case atStart=>exact⟨0,rfl,rfl,Nat.zero_le _,HB,HBel⟩
 case round=>
  clear HB HBel
  obtain⟨i,rfl,rfl,hi,HB,HBel⟩:=hrel
  by_cases hie:i<ec
  ·obtain⟨r,hr⟩:∃ r,gx 8 285 i=r:=⟨_,rfl⟩
   have hr8:r<256:=by rw [<- hr];exact gx_lt fQR i
   obtain⟨s,hs⟩:∃ s,genTo ec i=s:=⟨_,rfl⟩
   have hsl:s.length=ec:=by rw [<- hs];exact genTo_len ec i h
   have hs8:AllLt 8 s:=by rw [<- hs];exact genTo_lt ec i
   obtain⟨u,hu⟩:∃ u,gstep 8 285 s r=u:=⟨_,rfl⟩
   have hul:u.length=s.length:=by rw [<- hu];exact gstep_len s r (by omega)
   have HNX:=Aside0.mk (show genTo ec (i+1)=u by rw [genTo_succ,hs,hr,hu])
   have HRX:=Aside0.mk (show gm 8 285 r 2=gx 8 285 (i+1) by rw [<- hr,show (2:Nat)=gx 8 285 1 from rfl,gx_add fQR])
   have HG:=Aside0.mk (show ∀ k,k<s.length->u.getD k 0=gm 8 285 (s.getD k 0) r ^^^ s.getD (k+1) 0 from fun k hk=>by rw [<- hu];exact gstep_get s r k hk)
   have HSL:=Aside0.mk hsl
   have HS8:=Aside0.mk hs8
   have HUL:=Aside0.mk hul
   rw [hr]
   rw [hs] at HB
   have HB0:=Aside0.mk (show IBlk wr g (mid u s 0) by rw [mid_zero];exact HB.out)
   clear hr hs hsl hs8 hu hul
   go_wp2_with fail
   go_loopw [20] (fun vk wx=>∃ k:Nat,vk=.int .i64 (k:Int)/\k<=ec/\Aside0 (IBlk wx g (mid u s k))/\Aside0 (Below g w wx)) (fun vk _=>(ec-intOf vk).toNat)
   case atStart=>exact⟨0,rfl,Nat.zero_le _,HB0,HBel⟩
   case round=>
    clear HB0 HBel HB
    obtain⟨k,rfl,hk,HB,HBel⟩:=hrel
    by_cases hke:k<ec
    ·have hml:=mid_len u s k HUL.out (by rw [HSL.out];exact hk)
     rw [HSL.out] at hml
     obtain⟨a,ha⟩:∃ a,s.getD k 0=a:=⟨_,rfl⟩
     have ha8:a<256:=by rw [<- ha];exact getD_lt HS8.out k
     obtain⟨b,hb⟩:∃ b,s.getD (k+1) 0=b:=⟨_,rfl⟩
     have hb8:b<256:=by rw [<- hb];exact getD_lt HS8.out (k+1)
     have r0:=HB.out.cell k (by rw [hml];exact hke)
     rw [mid_get u s k k HUL.out (by rw [HSL.out];exact hk) (Nat.le_refl _),ha] at r0
     have y2:wr.frozen? ⟨g,k,none⟩=false:=Blk.frozen HB.out k
     have kt:=times120 wr a r ha8 hr8
     obtain⟨t,ht⟩:∃ t,gm 8 285 a r=t:=⟨_,rfl⟩
     have ht8:t<256:=by rw [<- ht];exact gm_lt fQR a r ha8
     have hg:=HG.out k (by rw [HSL.out];exact hke)
     rw [ha,hb,ht] at hg
     rw [ht] at kt
     by_cases hk1:k+1<ec
     ·have r1:=HB.out.cell (k+1) (by rw [hml];exact hk1)
      rw [mid_get u s k (k+1) HUL.out (by rw [HSL.out];exact hk) (by omega),hb] at r1
      have hkk:k≠k+1:=by omega
      have hB1:=HB.out.set k t
      have q0:=hB1.cell k (by rw [List.length_set,hml];exact hke)
      have q1:=hB1.cell (k+1) (by rw [List.length_set,hml];exact hk1)
      have q2:(wr.setCell ⟨g,k,none⟩ (.int .i64 ((t:Nat):Int))).frozen? ⟨g,k,none⟩=false:=Blk.frozen hB1 k
      rw [List.getD_eq_getElem?_getD,List.getElem?_set_self (by rw [hml];exact hke),Option.getD_some] at q0
      rw [List.getD_eq_getElem?_getD,List.getElem?_set_ne hkk,<- List.getD_eq_getElem?_getD,mid_get u s k (k+1) HUL.out (by rw [HSL.out];exact hk) (by omega),hb] at q1
      have hx:=i64_xor_nat t b (by omega) (by omega)
      obtain⟨z,hz⟩:∃ z,t ^^^ b=z:=⟨_,rfl⟩
      rw [hz] at hx hg
      have HN:=Aside0.mk (show IBlk ((wr.setCell ⟨g,k,none⟩ (.int .i64 ((t:Nat):Int))).drew.setCell ⟨g,k,none⟩ (.int .i64 ((z:Nat):Int))) g (mid u s (k+1)) by
       have:=IBlk.set (show IBlk (wr.setCell ⟨g,k,none⟩ (.int .i64 ((t:Nat):Int))).drew g _ from Blk.below hB1 (below_drew1 (Below.refl _ _)) (Blk.lt hB1)) k z
       rw [List.set_set,<- hg,mid_set u s k HUL.out (by rw [HSL.out];exact hke)] at this
       rw [hg] at this
       exact this)
      have HBN:=Aside0.mk (show Below g w ((wr.setCell ⟨g,k,none⟩ (.int .i64 ((t:Nat):Int))).drew.setCell ⟨g,k,none⟩ (.int .i64 ((z:Nat):Int))) from Below.setc (below_drew1 (Below.setc HBel.out (Nat.le_refl _) _)) (Nat.le_refl _) _)
      clear hB1 hz hg hb ht HB HBel HG
      have hk1i:(k:Int)+1<(ec:Int):=by omega
      go_wp2_with (go_at_call 120;refine kt.mono ?_;rintro e w' ⟨rfl,rfl⟩)
      apply held
      case r=>
       intro REST
       go_region
       all_goals exact REST
      go_wp2
      go_roundw
      case rel=>exact⟨k+1,by go_num,by omega,HN,HBN⟩
      case measure=>simp [intOf]<;>omega
     ·have hb0:b=0:=by
       rw [<- hb,List.getD_eq_getElem?_getD,List.getElem?_eq_none (by rw [HSL.out];omega)]
       rfl
      rw [hb0,Nat.xor_zero] at hg
      have HN:=Aside0.mk (show IBlk (wr.setCell ⟨g,k,none⟩ (.int .i64 ((t:Nat):Int))) g (mid u s (k+1)) by
       have:=HB.out.set k t
       rw [<- hg,mid_set u s k HUL.out (by rw [HSL.out];exact hke),hg] at this
       exact this)
      have HBN:=Aside0.mk (show Below g w (wr.setCell ⟨g,k,none⟩ (.int .i64 ((t:Nat):Int))) from Below.setc HBel.out (Nat.le_refl _) _)
      clear hg hb ht HB HBel HG hb0
      have hk1i:¬ (k:Int)+1<(ec:Int):=by omega
      go_wp2_with (go_at_call 120;refine kt.mono ?_;rintro e w' ⟨rfl,rfl⟩)
      go_roundw
      case rel=>exact⟨k+1,by go_num,by omega,HN,HBN⟩
      case measure=>simp [intOf]<;>omega
    ·have:k=ec:=by omega
     subst this
     have HB2:=Aside0.mk (show IBlk wr g (genTo k (i+1)) by rw [HNX.out,<- mid_all u s HUL.out,HSL.out];exact HB.out)
     have k2:=times120 wr r 2 hr8 (by decide)
     rw [HRX.out] at k2
     obtain⟨r2,hr2⟩:∃ r2,gx 8 285 (i+1)=r2:=⟨_,rfl⟩
     rw [hr2] at k2
     have HR2:=Aside0.mk hr2
     clear hr2
     go_wp2_with (go_at_call 120;refine k2.mono ?_;rintro e w' ⟨rfl,rfl⟩)
     go_roundw
     case rel=>exact⟨i+1,by go_num,by rw [HR2.out],by omega,HB2,HBel⟩
     case measure=>simp [intOf]<;>omega
  ·have:i=ec:=by omega
   subst this
   go_wp2
   go_ret
   exact⟨rfl,HB.out,HBel.out⟩
def ByteAt (w:World)(q off:Nat)(ds:List Nat):Prop:=∀ i,i<ds.length->w.cell? ⟨q,off+i,none⟩=some (.int .u8 ((ds.getD i 0:Nat):Int))
theorem ByteAt.below {w w':World}{q off B:Nat}{ds:List Nat}(h:ByteAt w q off ds)(hb:Below B w w')(hq:q<B):ByteAt w' q off ds :=
 fun i hi=>(hb.cell (p:=⟨q,off+i,none⟩) hq).trans (h i hi)
theorem rstep_get (g s:List Nat)(b k:Nat)(h:s.length=g.length)(hk:k<g.length):(rstep 8 285 g s b).getD k 0=s.getD (k+1) 0 ^^^ gm 8 285 (g.getD k 0) (b ^^^ s.headD 0):=by
 have hl:(rstep 8 285 g s b).length=g.length:=rstep_len g s b h (by omega)
 rw [List.getD_eq_getElem?_getD,List.getElem?_eq_getElem (by omega),Option.getD_some]
 unfold rstep
 rw [List.getElem_zipWith,List.getElem_map]
 have e1:g.getD k 0=g[k]:=by rw [List.getD_eq_getElem?_getD,List.getElem?_eq_getElem hk];rfl
 rw [e1]
 congr 1
 by_cases h2:k+1<s.length
 ·rw [List.getElem_append_left (by rw [List.length_tail];omega),List.getElem_tail,List.getD_eq_getElem?_getD,List.getElem?_eq_getElem h2]
  rfl
 ·rw [List.getElem_append_right (by rw [List.length_tail];omega),List.getD_eq_getElem?_getD,List.getElem?_eq_none (by omega)]
  simp
theorem rest_append (g:List Nat):∀ (l s:List Nat) (b:Nat),rest 8 285 g s (l++[b])=rstep 8 285 g (rest 8 285 g s l) b:=by
 intro l
 induction l with
 | nil=>intro s b;rfl
 | cons a l ih=>intro s b;exact ih _ b
theorem rest_len (g:List Nat)(h0:0<g.length):∀ (l s:List Nat),s.length=g.length->(rest 8 285 g s l).length=g.length:=by
 intro l
 induction l with
 | nil=>intro s h;exact h
 | cons a l ih=>intro s h;exact ih _ (rstep_len g s a h h0)
theorem rest_lt (g:List Nat)(hg:AllLt 8 g):∀ (l s:List Nat),AllLt 8 s->AllLt 8 (rest 8 285 g s l):=by
 intro l
 induction l with
 | nil=>intro s h;exact h
 | cons a l ih=>intro s h;exact ih _ (rstep_lt fQR g s a hg h)
def corrOf (ec:Nat)(ds:List Nat):List Nat:=rest 8 285 (genTo ec ec) (List.replicate ec 0) ds
theorem corrOf_len (ec:Nat)(ds:List Nat)(h:1<=ec):(corrOf ec ds).length=ec:=by
 unfold corrOf
 rw [rest_len _ (by rw [genTo_len ec ec h];omega) _ _ (by rw [genTo_len ec ec h];simp),genTo_len ec ec h]
theorem corrOf_lt (ec:Nat)(ds:List Nat):AllLt 8 (corrOf ec ds):=rest_lt _ (genTo_lt ec ec) _ _ (fun x hx=>by rw [List.eq_of_mem_replicate hx];decide)
theorem corrOf_next (ec:Nat)(ds:List Nat)(i:Nat)(hi:i<ds.length):corrOf ec (ds.take (i+1))=rstep 8 285 (genTo ec ec) (corrOf ec (ds.take i)) (ds.getD i 0):=by
 unfold corrOf
 rw [List.take_succ_eq_append_getElem hi,rest_append,List.getD_eq_getElem?_getD,List.getElem?_eq_getElem hi]
 rfl
theorem corr_root (ec i:Nat)(ds:List Nat)(h:1<=ec)(hi:i<ec)(hd:AllLt 8 ds):pev 8 285 (gx 8 285 i) (ds++corrOf ec ds)=0:=by
 have hl:=genTo_len ec ec h
 have:=code_root fQR (gx 8 285 i) (gx_lt fQR i) (genTo ec ec) ds (genTo_lt ec ec) (by omega) hd (by rw [hl];exact gen_root ec i h hi)
 rw [hl] at this
 exact this
set_option maxHeartbeats 2000000 in
set_option maxRecDepth 8000 in
theorem corr63 (w:World)(q off n m ec:Nat)(ds:List Nat)(hD:ByteAt w q off ds)(hq:q<w.heap.size)(hn:ds.length=n)(hn2:n<=100000)(hd:AllLt 8 ds)(h:1<=ec)(h2:ec<=1000) :
  Calls Tryz.prog 63 #[.slice (some ⟨q,off,none⟩) n m,.int .i64 (ec:Int)] w fun e w'=>∃ g,e=.returned (.slice (some ⟨g,0,none⟩) ec ec)/\w.heap.size<=g/\UBlk w' g (corrOf ec ds)/\Below w.heap.size w w':=by
 have kg:=gen119 w ec h h2
 have HD:=Aside0.mk hD
 have HQ:=Aside0.mk hq
 have HN:=Aside0.mk hn
 have HDD:=Aside0.mk hd
 obtain⟨g0,hg0⟩:∃ g0,g0=w.heap.size:=⟨_,rfl⟩
 rw [<- hg0] at kg ⊢
 have HG0:=Aside0.mk hg0
 clear hD hq hn hd hg0
 have HEC:=Aside0.mk h
 go_enter Tryz.func63,Tryz.ntmps63
 go_wp2_with (go_loud (go_at_call 119;refine kg.mono ?_;rintro e w1 ⟨rfl,hI,hB⟩;have hmk:=make_u8 ec (by omega) w1;have hlt:=Blk.lt hI;obtain⟨w2,hw2⟩:∃ w2,w2=w1.alloc (.cells (nums .u8 (ints (List.replicate ec 0))).toArray 5):=⟨_,rfl⟩;obtain⟨g1,hg1⟩:∃ g1,g1=w1.heap.size:=⟨_,rfl⟩;rw [<- hw2,<- hg1] at hmk;rw [<- hg1] at hlt;have HG1:=Aside0.mk hlt;have HI:=Aside0.mk (show IBlk w2 g0 (genTo ec ec) by rw [hw2];exact Blk.alloc hI _);have HB:=Aside0.mk (show Below g0 w w2 by rw [hw2];rw [HG0.out] at hB ⊢;exact below_alloc hB _);have HU:=Aside0.mk (show UBlk w2 g1 (corrOf ec (ds.take 0)) by rw [hw2,hg1];exact Blk.new _ _ _);clear hI hB hlt hw2 hg1))
 clear kg hmk
 go_loopw [18] (fun vi wr=>∃ i:Nat,vi=.int .i64 (i:Int)/\i<=n/\Aside0 (IBlk wr g0 (genTo ec ec))/\Aside0 (UBlk wr g1 (corrOf ec (ds.take i)))/\Aside0 (Below g0 w wr)) (fun vi _=>(n-intOf vi).toNat)
 case atStart=>exact⟨0,rfl,Nat.zero_le _,HI,HU,HB⟩
 case round=>
  clear HI HU HB
  obtain⟨i,rfl,hi,HI,HU,HB⟩:=hrel
  by_cases hin:i<n
  ·obtain⟨b,hb⟩:∃ b,ds.getD i 0=b:=⟨_,rfl⟩
   have hb8:b<256:=by rw [<- hb];exact getD_lt HDD.out i
   have r0:wr.cell? ⟨q,off+i,none⟩=some (.int .u8 (b:Int)):=by
    have:=HD.out.below HB.out (by rw [HG0.out];exact HQ.out) i (by rw [HN.out];exact hin)
    rw [hb] at this
    exact this
   obtain⟨s,hs⟩:∃ s,corrOf ec (ds.take i)=s:=⟨_,rfl⟩
   have hsl:s.length=ec:=by rw [<- hs];exact corrOf_len ec _ HEC.out
   have hs8:AllLt 8 s:=by rw [<- hs];exact corrOf_lt ec _
   rw [hs] at HU
   obtain⟨a,ha⟩:∃ a,s.getD 0 0=a:=⟨_,rfl⟩
   have ha8:a<256:=by rw [<- ha];exact getD_lt hs8 0
   have r1:wr.cell? ⟨g1,0,none⟩=some (.int .u8 (a:Int)):=by
    have:=UBlk.cell HU.out 0 (by rw [hsl];exact h)
    rw [ha] at this
    exact this
   have hx:=u8_xor_nat b a (by omega) (by omega)
   obtain⟨f,hf⟩:∃ f,b ^^^ a=f:=⟨_,rfl⟩
   have hf8:f<256:=by rw [<- hf];exact Nat.xor_lt_two_pow (n:=8) hb8 ha8
   rw [hf] at hx
   obtain⟨G,hG⟩:∃ G,genTo ec ec=G:=⟨_,rfl⟩
   have hGl:G.length=ec:=by rw [<- hG];exact genTo_len ec ec HEC.out
   have hG8:AllLt 8 G:=by rw [<- hG];exact genTo_lt ec ec
   obtain⟨u,hu⟩:∃ u,rstep 8 285 G s b=u:=⟨_,rfl⟩
   have hul:u.length=s.length:=by rw [<- hu,rstep_len G s b (by omega) (by omega)];omega
   have hhd:s.headD 0=a:=by rw [<- ha];cases s<;>rfl
   have HNX:=Aside0.mk (show corrOf ec (ds.take (i+1))=u by rw [corrOf_next ec ds i (by rw [HN.out];exact hin),hG,hs,hb,hu])
   have HGT:=Aside0.mk (show ∀ k,k<ec->u.getD k 0=s.getD (k+1) 0 ^^^ gm 8 285 (G.getD k 0) f from fun k hk=>by rw [<- hu,rstep_get G s b k (by omega) (by omega),hhd,hf])
   rw [hG] at HI
   have HGE:=Aside0.mk hG
   have HGL:=Aside0.mk hGl
   have HG8:=Aside0.mk hG8
   have HSL:=Aside0.mk hsl
   have HS8:=Aside0.mk hs8
   have HUL:=Aside0.mk hul
   have HU0:=Aside0.mk (show UBlk wr g1 (mid u s 0) by rw [mid_zero];exact HU.out)
   have hec0:(0:Int)<(ec:Int):=by omega
   clear hb hs hsl hs8 ha hf hG hGl hG8 hu hul hhd
   go_wp2_with fail
   clear r0 r1 hx
   go_loopw [30] (fun vk wx=>∃ k:Nat,vk=.int .i64 (k:Int)/\k<=ec/\Aside0 (IBlk wx g0 G)/\Aside0 (UBlk wx g1 (mid u s k))/\Aside0 (Below g0 w wx)) (fun vk _=>(ec-intOf vk).toNat)
   case atStart=>exact⟨0,rfl,Nat.zero_le _,HI,HU0,HB⟩
   case round=>
    clear HI HU HB HU0
    obtain⟨k,rfl,hk,HI,HU,HB⟩:=hrel
    by_cases hke:k<ec
    ·have hml:=mid_len u s k HUL.out (by rw [HSL.out];exact hk)
     rw [HSL.out] at hml
     obtain⟨a,ha⟩:∃ a,G.getD k 0=a:=⟨_,rfl⟩
     have ha8:a<256:=by rw [<- ha];exact getD_lt HG8.out k
     obtain⟨c,hc⟩:∃ c,s.getD (k+1) 0=c:=⟨_,rfl⟩
     have hc8:c<256:=by rw [<- hc];exact getD_lt HS8.out (k+1)
     have r0:=HI.out.cell k (by rw [HGL.out];exact hke)
     rw [ha] at r0
     have y2:wr.frozen? ⟨g1,k,none⟩=false:=Blk.frozen HU.out k
     have y3:=HU.out.cell k (by rw [hml];exact hke)
     have kt:=times120 wr a f ha8 hf8
     have hg:=HGT.out k hke
     obtain⟨t,ht⟩:∃ t,gm 8 285 a f=t:=⟨_,rfl⟩
     have ht8:t<256:=by rw [<- ht];exact gm_lt fQR a f ha8
     rw [ha,hc,ht] at hg
     rw [ht] at kt
     have hx:=u8_xor_nat c t (by omega) (by omega)
     obtain⟨z,hz⟩:∃ z,c ^^^ t=z:=⟨_,rfl⟩
     rw [hz] at hx hg
     have hz8:z<256:=by rw [<- hz];exact Nat.xor_lt_two_pow (n:=8) hc8 ht8
     have HN:=Aside0.mk (show UBlk (wr.setCell ⟨g1,k,none⟩ (.int .u8 ((z:Nat):Int))) g1 (mid u s (k+1)) by
      have:=HU.out.set k z
      rw [<- hg,mid_set u s k HUL.out (by rw [HSL.out];exact hke),hg] at this
      exact this)
     have HI2:=Aside0.mk (show IBlk (wr.setCell ⟨g1,k,none⟩ (.int .u8 ((z:Nat):Int))) g0 G from Blk.far HI.out (by have:=HG1.out;show g0≠g1;omega) _)
     have HB2:=Aside0.mk (show Below g0 w (wr.setCell ⟨g1,k,none⟩ (.int .u8 ((z:Nat):Int))) from Below.setc HB.out (Nat.le_of_lt HG1.out) _)
     have htm:(t:Int)%256=(t:Int):=by omega
     by_cases hk1:k+1<ec
     ·have r1:=HU.out.cell (k+1) (by rw [hml];exact hk1)
      rw [mid_get u s k (k+1) HUL.out (by rw [HSL.out];exact hk) (by omega),hc] at r1
      have hk1i:(k:Int)+1<(ec:Int):=by omega
      clear ha hc ht hz hg
      go_wp2_with (go_at_call 120;refine kt.mono ?_;rintro e w' ⟨rfl,rfl⟩)
      go_roundw
      case rel=>exact⟨k+1,by go_num,by omega,HI2,HN,HB2⟩
      case measure=>simp [intOf]<;>omega
     ·have hc0:c=0:=by
       rw [<- hc,List.getD_eq_getElem?_getD,List.getElem?_eq_none (by rw [HSL.out];omega)]
       rfl
      have hk1i:¬ (k:Int)+1<(ec:Int):=by omega
      rw [hc0] at hx
      have hx':Go.bits .xor .u8 0 (t:Int)=(z:Int):=hx
      clear ha hc ht hz hg hc0 hx
      go_wp2_with (go_at_call 120;refine kt.mono ?_;rintro e w' ⟨rfl,rfl⟩)
      go_roundw
      case rel=>exact⟨k+1,by go_num,by omega,HI2,HN,HB2⟩
      case measure=>simp [intOf]<;>omega
    ·have:k=ec:=by omega
     subst this
     have HI2:=Aside0.mk (show IBlk wr g0 (genTo k k) by rw [HGE.out];exact HI.out)
     have HU2:=Aside0.mk (show UBlk wr g1 (corrOf k (ds.take (i+1))) by rw [HNX.out,<- mid_all u s HUL.out,HSL.out];exact HU.out)
     go_wp2
     go_roundw
     case rel=>exact⟨i+1,by go_num,by omega,HI2,HU2,HB⟩
     case measure=>simp [intOf]<;>omega
  ·have:i=n:=by omega
   subst this
   go_wp2
   go_ret
   exact⟨g1,rfl,Nat.le_of_lt HG1.out,by have:=HU.out;rwa [List.take_of_length_le (by rw [HN.out];omega)] at this,HB.out⟩
def sizesTo (c d n i:Nat):List Nat:=(List.range n).map fun k=>if k<i then dl c d k else 0
def sizesOf (c d n:Nat):List Nat:=(List.range n).map (dl c d)
theorem sizesTo_len (c d n i:Nat):(sizesTo c d n i).length=n:=by simp [sizesTo]
theorem sizesTo_zero (c d n:Nat):sizesTo c d n 0=List.replicate n 0:=by
 apply List.ext_getElem (by simp [sizesTo])
 intro i h1 h2
 simp [sizesTo]
theorem sizesTo_all (c d n:Nat):sizesTo c d n n=sizesOf c d n:=by
 unfold sizesTo sizesOf
 apply List.map_congr_left
 intro k hk
 rw [if_pos (List.mem_range.1 hk)]
theorem sizesTo_set (c d n i:Nat)(h:i<n):(sizesTo c d n i).set i (dl c d i)=sizesTo c d n (i+1):=by
 apply List.ext_getElem (by simp [sizesTo])
 intro k h1 h2
 rw [List.getElem_set]
 simp only [sizesTo,List.getElem_map,List.getElem_range]
 by_cases hk:i=k
 ·subst hk
  rw [if_pos rfl,if_pos (by omega)]
 ·rw [if_neg hk]
  by_cases h3:k<i
  ·rw [if_pos h3,if_pos (by omega)]
  ·rw [if_neg h3,if_neg (by omega)]
theorem sizesOf_get (c d n i:Nat)(h:i<n):(sizesOf c d n).getD i 0=dl c d i:=by
 rw [List.getD_eq_getElem?_getD,List.getElem?_eq_getElem (by simp [sizesOf];omega)]
 simp [sizesOf]
theorem sizesOf_len (c d n:Nat):(sizesOf c d n).length=n:=by simp [sizesOf]
set_option maxHeartbeats 1000000 in
set_option maxRecDepth 8000 in
theorem sizes62 (w:World)(v l:Nat)(hv:1<=v/\v<=40)(hl:l<4) :
  Calls Tryz.prog 62 #[.int .i64 (v:Int),.int .i64 (l:Int)] w fun e w'=>∃ g,e=.returned (.slice (some ⟨g,0,none⟩) (lvC v l+lvC2 v l) (lvC v l+lvC2 v l))/\w.heap.size<=g/\IBlk w' g (sizesOf (lvC v l) (lvD v l) (lvC v l+lvC2 v l))/\Below w.heap.size w w':=by
 have k1:=corr55 w v l hv hl
 have K2:=Aside0.mk (fun W=>total56 W v hv)
 have L:=lay_at v l hv hl
 have h1:=L.tot
 have h2:=(tot_row v hv).2
 have hc1:=L.c1
 have hcc:=L.cc
 have he2:=L.e2
 have hd2:=L.d2
 obtain⟨e,he⟩:∃ e,lvE v l=e:=⟨_,rfl⟩
 obtain⟨c,hc⟩:∃ c,lvC v l=c:=⟨_,rfl⟩
 obtain⟨d,hd⟩:∃ d,lvD v l=d:=⟨_,rfl⟩
 obtain⟨c2,hc2⟩:∃ c2,lvC2 v l=c2:=⟨_,rfl⟩
 obtain⟨T,hT⟩:∃ T,roomN v/8=T:=⟨_,rfl⟩
 rw [he,hc,hc2] at k1
 rw [hc,hd,hc2]
 rw [hT] at K2
 rw [he,hc,hd,hc2,hT] at h1
 rw [hc] at hc1
 rw [hc,hc2] at hcc
 rw [he] at he2
 rw [hd] at hd2
 obtain⟨n,hn⟩:∃ n,c+c2=n:=⟨_,rfl⟩
 rw [hn] at k1 h1 hcc ⊢
 have hT5:T<=5000:=by omega
 have hc2n:c2<n:=by omega
 have hn0:0<n:=by omega
 have e1:T=c2+n*(d+e):=by
  have:n*(d+e)=d*n+e*n:=by rw [Nat.mul_comm,Nat.add_mul]
  omega
 have e2:T/n=d+e:=by rw [e1,Nat.add_mul_div_left _ _ hn0,Nat.div_eq_of_lt hc2n,Nat.zero_add]
 have e3:T%n=c2:=by rw [e1,Nat.add_mul_mod_self_left,Nat.mod_eq_of_lt hc2n]
 obtain⟨dq,hdq⟩:∃ dq,d+e=dq:=⟨_,rfl⟩
 rw [hdq] at e2
 have q1:(T:Int)/(n:Int)=(dq:Int):=by rw [<- e2];rfl
 have q2:(T:Int)%(n:Int)=(c2:Int):=by rw [<- e3];rfl
 have q3:(dq:Int)-(e:Int)=(d:Int):=by omega
 have q4:(n:Int)-(c2:Int)=(c:Int):=by omega
 have hdq3:dq<=300:=by omega
 have hn00:(n:Int)≠0:=by omega
 clear L h1 h2 he hc hd hc2 hT hn e1 e2 e3 hdq
 have HN:=Aside0.mk hn0
 go_enter Tryz.func62,Tryz.ntmps62
 go_wp2_with (first | (go_at_call 55;refine k1.mono ?_;rintro e w1 ⟨rfl,hb1⟩;have HB1:=Aside0.mk hb1;clear hb1) | (go_at_call 56;refine (K2.out _).mono ?_;rintro e w2 ⟨rfl,hb2⟩;have HB2:=Aside0.mk (HB1.out.trans (hb2.mono HB1.out.size));have hmk:=make_i64 n (by omega) w2;obtain⟨w3,hw3⟩:∃ w3,w3=w2.alloc (.cells (nums .i64 (ints (List.replicate n 0))).toArray 3):=⟨_,rfl⟩;obtain⟨g,hg⟩:∃ g,g=w2.heap.size:=⟨_,rfl⟩;have HG:=Aside0.mk (show w.heap.size<=g by rw [hg];exact HB2.out.size);rw [<- hw3,<- hg] at hmk;have HI:=Aside0.mk (show IBlk w3 g (sizesTo c d n 0) by rw [hw3,hg,sizesTo_zero];exact Blk.new _ _ _);have HB:=Aside0.mk (show Below w.heap.size w w3 by rw [hw3];exact Below.alloc HB2.out HB2.out.size _);clear hb2 hw3 hg))
 clear k1 hmk
 go_loopw [22] (fun vi wr=>∃ i:Nat,vi=.int .i64 (i:Int)/\i<=n/\Aside0 (IBlk wr g (sizesTo c d n i))/\Aside0 (Below w.heap.size w wr)) (fun vi _=>(n-intOf vi).toNat)
 case atStart=>exact⟨0,rfl,Nat.zero_le _,HI,HB⟩
 case round=>
  clear HI HB
  obtain⟨i,rfl,hi,HI,HB⟩:=hrel
  by_cases hin:i<n
  ·have y1:=HI.out.cell i (by rw [sizesTo_len];exact hin)
   have y2:wr.frozen? ⟨g,i,none⟩=false:=Blk.frozen HI.out i
   have hB1:=HI.out.set i d
   have y3:(wr.setCell ⟨g,i,none⟩ (.int .i64 (d:Int))).cell? ⟨g,i,none⟩=some (.int .i64 (d:Int)):=by
    have:=hB1.cell i (by rw [List.length_set,sizesTo_len];exact hin)
    rwa [List.getD_eq_getElem?_getD,List.getElem?_set_self (by rw [sizesTo_len];exact hin),Option.getD_some] at this
   have y4:(wr.setCell ⟨g,i,none⟩ (.int .i64 (d:Int))).frozen? ⟨g,i,none⟩=false:=Blk.frozen hB1 i
   have hnx:=sizesTo_set c d n i hin
   have HB1:=Aside0.mk (Below.setc HB.out HG.out (i:=i) (.int .i64 (d:Int)))
   by_cases hic:i<c
   ·have HI1:=Aside0.mk (show IBlk (wr.setCell ⟨g,i,none⟩ (.int .i64 (d:Int))) g (sizesTo c d n (i+1)) by
     rw [show dl c d i=d by unfold dl;rw [if_pos hic]] at hnx
     rw [hnx] at hB1
     exact hB1)
    have hic2:¬ (c:Int)<=(i:Int):=by omega
    clear hB1 hnx
    go_wp2
    go_roundw
    case rel=>exact⟨i+1,by go_num,by omega,HI1,HB1⟩
    case measure=>simp [intOf]<;>omega
   ·have HI1:=Aside0.mk (show IBlk ((wr.setCell ⟨g,i,none⟩ (.int .i64 (d:Int))).setCell ⟨g,i,none⟩ (.int .i64 ((d+1:Nat):Int))) g (sizesTo c d n (i+1)) by
     have:=hB1.set i (d+1)
     rw [List.set_set] at this
     rw [show dl c d i=d+1 by unfold dl;rw [if_neg hic]] at hnx
     rw [hnx] at this
     exact this)
    have HB2:=Aside0.mk (Below.setc HB1.out HG.out (i:=i) (.int .i64 ((d+1:Nat):Int)))
    have hic2:(c:Int)<=(i:Int):=by omega
    clear hB1 hnx
    go_wp2
    go_roundw
    case rel=>exact⟨i+1,by go_num,by omega,HI1,HB2⟩
    case measure=>simp [intOf]<;>omega
  ·have:i=n:=by omega
   subst this
   go_wp2
   go_ret
   exact⟨g,rfl,HG.out,by have:=HI.out;rwa [sizesTo_all] at this,HB.out⟩
end Go.Proofs.YtgccjgpdjkhpdaaGreat.B
