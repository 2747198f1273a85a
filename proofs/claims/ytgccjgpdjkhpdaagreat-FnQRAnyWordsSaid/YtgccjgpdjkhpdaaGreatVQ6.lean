import Derived.Great.Frames
import Derived.Test.YtgccjgpdjkhpdaaGreatVQ5
/-! Own texts of this claim, part 6. -/
namespace Go.Proofs.YtgccjgpdjkhpdaaGreat.B
open Go.RowKit Go.Proofs.YtgccjgpdjkhpdaaGreatW.PrintWords Go.Proofs.YtgccjgpdjkhpdaaGreatW.PrintLast Go.Proofs.YtgccjgpdjkhpdaaGreatW.PrintMore
set_option linter.unusedVariables false
set_option linter.unusedSimpArgs false
theorem wpList_build {P:Program}{ops:Array Oper}{rest:List Oper}{o:Oper}{a:Act}{Q:Exit->Act->World->Prop}{W W':World}(hgd:o.guard=none)(t:TypeId)(len:Nat)(parts:Array (Nat×Operand))(ho:o.op=.buildSlice t len parts)
  (vals:Array (Nat×Value)) (hv:(parts.map fun p=>(p.1,a.eval p.2))=vals) (v:Value) (hrun:(Instr.buildSlice t len vals).run P W=.ok v W') (k:wpList P ops Q rest (a.put o.dst v) W'):wpList P ops Q (o :: rest) a W:=by
 refine wpList_plain hgd fun K hK=>?_
 subst hv
 unfold Oper.wp
 have e:(execOp a.eval o).run P W=.ok (.value v) W':=by
  unfold execOp
  rw [ho]
  simp only [Sem.run_bind]
  show Result.andThen ((Instr.buildSlice t len (parts.map fun p=>(p.1,a.eval p.2))).run P W) _=_
  rw [hrun]
  rfl
 rw [e]
 exact hK _ _ k
theorem wpList_buildV {P:Program}{ops:Array Oper}{rest:List Oper}{o:Oper}{a:Act}{Q:Exit->Act->World->Prop}{W W':World}(hgd:o.guard=none)(t:TypeId)(parts:Array (Nat×Operand))(ho:o.op=.build t parts)
  (vals:Array (Nat×Value)) (hv:(parts.map fun p=>(p.1,a.eval p.2))=vals) (v:Value) (hrun:(Instr.build t vals).run P W=.ok v W') (k:wpList P ops Q rest (a.put o.dst v) W'):wpList P ops Q (o :: rest) a W:=by
 refine wpList_plain hgd fun K hK=>?_
 subst hv
 unfold Oper.wp
 have e:(execOp a.eval o).run P W=.ok (.value v) W':=by
  unfold execOp
  rw [ho]
  simp only [Sem.run_bind]
  show Result.andThen ((Instr.build t (parts.map fun p=>(p.1,a.eval p.2))).run P W) _=_
  rw [hrun]
  rfl
 rw [e]
 exact hK _ _ k
theorem wpList_assign {P:Program}{ops:Array Oper}{rest:List Oper}{o:Oper}{a:Act}{Q:Exit->Act->World->Prop}{W:World}(hgd:o.guard=none)(x:Operand)(ho:o.op=.assign x)(k:wpList P ops Q rest (a.put o.dst (a.eval x)) W):wpList P ops Q (o :: rest) a W:=by
 refine wpList_plain hgd fun K hK=>?_
 unfold Oper.wp
 have e:(execOp a.eval o).run P W=.ok (.value (a.eval x)) W:=by
  unfold execOp
  rw [ho]
  rfl
 rw [e]
 exact hK _ _ k
theorem wpList_move {P:Program}{ops:Array Oper}{rest:List Oper}{o:Oper}{a:Act}{Q:Exit->Act->World->Prop}{W:World}(hgd:o.guard=none)(x:Operand)(ho:o.op=.move x)(k:wpList P ops Q rest (a.put o.dst (a.eval x)) W):wpList P ops Q (o :: rest) a W:=by
 refine wpList_plain hgd fun K hK=>?_
 unfold Oper.wp
 have e:(execOp a.eval o).run P W=.ok (.value (a.eval x)) W:=by
  unfold execOp
  rw [ho]
  rfl
 rw [e]
 exact hK _ _ k
theorem wpList_eqlC {ops:Array Oper}{rest:List Oper}{o:Oper}{a:Act}{Q:Exit->Act->World->Prop}{W:World}(hgd:o.guard=none)(x:Operand)(n k:Int)(ho:o.op=.binOp .eql 3 x (.const (.int .i64 k)) 3)(hx:a.eval x=.int .i64 n)
  (h:wpList Tryz.prog ops Q rest (a.put o.dst (.bool (n==k))) W):wpList Tryz.prog ops Q (o :: rest) a W:=by
 refine wpList_plain hgd fun K hK=>?_
 unfold Oper.wp
 have e:(execOp a.eval o).run Tryz.prog W=.ok (.value (.bool (n==k))) W:=by
  unfold execOp
  rw [ho]
  simp only [hx]
  have hc:a.eval (.const (.int .i64 k))=.int .i64 k:=rfl
  rw [hc]
  first | done | rfl | trace_state
 rw [e]
 exact hK _ _ h
theorem run_ecb (c d:Int)(W:World):(Instr.build 221 #[(0,.int .i64 c),(1,.int .i64 d)]).run Tryz.prog W=.ok (.agg #[.int .i64 c,.int .i64 d]) W:=by
 first | kernel_rfl | rfl
theorem run_ecbs1 (c d:Int)(W:World):(Instr.buildSlice 222 1 #[(0,.agg #[.int .i64 c,.int .i64 d])]).run Tryz.prog W=.ok (.slice (some ⟨W.heap.size,0,none⟩) 1 1) (W.alloc (.cells #[.int .i64 c,.int .i64 d] 221)):=by
 first | kernel_rfl | rfl
theorem run_ecbs2 (c d e f:Int)(W:World):(Instr.buildSlice 222 2 #[(0,.agg #[.int .i64 c,.int .i64 d]),(1,.agg #[.int .i64 e,.int .i64 f])]).run Tryz.prog W=.ok (.slice (some ⟨W.heap.size,0,none⟩) 2 2) (W.alloc (.cells #[.int .i64 c,.int .i64 d,.int .i64 e,.int .i64 f] 221)):=by
 first | kernel_rfl | rfl
theorem run_blk (ec:Int)(g m:Nat)(W:World):(Instr.build 224 #[(0,.int .i64 ec),(1,.slice (some ⟨g,0,none⟩) m m)]).run Tryz.prog W=.ok (.agg #[.int .i64 ec,.slice (some ⟨g,0,none⟩) m m]) W:=by
 first | kernel_rfl | rfl
theorem run_blks (e0 e1 e2 e3:Int)(g0 g1 g2 g3 m0 m1 m2 m3:Nat)(W:World):(Instr.buildSlice 152 4 #[(0,.agg #[.int .i64 e0,.slice (some ⟨g0,0,none⟩) m0 m0]),(1,.agg #[.int .i64 e1,.slice (some ⟨g1,0,none⟩) m1 m1]),(2,.agg #[.int .i64 e2,.slice (some ⟨g2,0,none⟩) m2 m2]),(3,.agg #[.int .i64 e3,.slice (some ⟨g3,0,none⟩) m3 m3])]).run Tryz.prog W=.ok (.slice (some ⟨W.heap.size,0,none⟩) 4 4)
  (W.alloc (.cells #[.int .i64 e0,.slice (some ⟨g0,0,none⟩) m0 m0,.int .i64 e1,.slice (some ⟨g1,0,none⟩) m1 m1,.int .i64 e2,.slice (some ⟨g2,0,none⟩) m2 m2,.int .i64 e3,.slice (some ⟨g3,0,none⟩) m3 m3] 224)):=by
 first | kernel_rfl | rfl
abbrev VerRow:=List Int×List (Int×List (Int×Int))
def verTab:List VerRow :=
 [([],[(7,[(1,19)]),(10,[(1,16)]),(13,[(1,13)]),(17,[(1,9)])]),
  ([6,18],[(10,[(1,34)]),(16,[(1,28)]),(22,[(1,22)]),(28,[(1,16)])]),
  ([6,22],[(15,[(1,55)]),(26,[(1,44)]),(18,[(2,17)]),(22,[(2,13)])]),
  ([6,26],[(20,[(1,80)]),(18,[(2,32)]),(26,[(2,24)]),(16,[(4,9)])]),
  ([6,30],[(26,[(1,108)]),(24,[(2,43)]),(18,[(2,15),(2,16)]),(22,[(2,11),(2,12)])]),
  ([6,34],[(18,[(2,68)]),(16,[(4,27)]),(24,[(4,19)]),(28,[(4,15)])]),
  ([6,22,38],[(20,[(2,78)]),(18,[(4,31)]),(18,[(2,14),(4,15)]),(26,[(4,13),(1,14)])]),
  ([6,24,42],[(24,[(2,97)]),(22,[(2,38),(2,39)]),(22,[(4,18),(2,19)]),(26,[(4,14),(2,15)])]),
  ([6,26,46],[(30,[(2,116)]),(22,[(3,36),(2,37)]),(20,[(4,16),(4,17)]),(24,[(4,12),(4,13)])]),
  ([6,28,50],[(18,[(2,68),(2,69)]),(26,[(4,43),(1,44)]),(24,[(6,19),(2,20)]),(28,[(6,15),(2,16)])]),
  ([6,30,54],[(20,[(4,81)]),(30,[(1,50),(4,51)]),(28,[(4,22),(4,23)]),(24,[(3,12),(8,13)])]),
  ([6,32,58],[(24,[(2,92),(2,93)]),(22,[(6,36),(2,37)]),(26,[(4,20),(6,21)]),(28,[(7,14),(4,15)])]),
  ([6,34,62],[(26,[(4,107)]),(22,[(8,37),(1,38)]),(24,[(8,20),(4,21)]),(22,[(12,11),(4,12)])]),
  ([6,26,46,66],[(30,[(3,115),(1,116)]),(24,[(4,40),(5,41)]),(20,[(11,16),(5,17)]),(24,[(11,12),(5,13)])]),
  ([6,26,48,70],[(22,[(5,87),(1,88)]),(24,[(5,41),(5,42)]),(30,[(5,24),(7,25)]),(24,[(11,12),(7,13)])]),
  ([6,26,50,74],[(24,[(5,98),(1,99)]),(28,[(7,45),(3,46)]),(24,[(15,19),(2,20)]),(30,[(3,15),(13,16)])]),
  ([6,30,54,78],[(28,[(1,107),(5,108)]),(28,[(10,46),(1,47)]),(28,[(1,22),(15,23)]),(28,[(2,14),(17,15)])]),
  ([6,30,56,82],[(30,[(5,120),(1,121)]),(26,[(9,43),(4,44)]),(28,[(17,22),(1,23)]),(28,[(2,14),(19,15)])]),
  ([6,30,58,86],[(28,[(3,113),(4,114)]),(26,[(3,44),(11,45)]),(26,[(17,21),(4,22)]),(26,[(9,13),(16,14)])]),
  ([6,34,62,90],[(28,[(3,107),(5,108)]),(26,[(3,41),(13,42)]),(30,[(15,24),(5,25)]),(28,[(15,15),(10,16)])]),
  ([6,28,50,72,94],[(28,[(4,116),(4,117)]),(26,[(17,42)]),(28,[(17,22),(6,23)]),(30,[(19,16),(6,17)])]),
  ([6,26,50,74,98],[(28,[(2,111),(7,112)]),(28,[(17,46)]),(30,[(7,24),(16,25)]),(24,[(34,13)])]),
  ([6,30,54,78,102],[(30,[(4,121),(5,122)]),(28,[(4,47),(14,48)]),(30,[(11,24),(14,25)]),(30,[(16,15),(14,16)])]),
  ([6,28,54,80,106],[(30,[(6,117),(4,118)]),(28,[(6,45),(14,46)]),(30,[(11,24),(16,25)]),(30,[(30,16),(2,17)])]),
  ([6,32,58,84,110],[(26,[(8,106),(4,107)]),(28,[(8,47),(13,48)]),(30,[(7,24),(22,25)]),(30,[(22,15),(13,16)])]),
  ([6,30,58,86,114],[(28,[(10,114),(2,115)]),(28,[(19,46),(4,47)]),(28,[(28,22),(6,23)]),(30,[(33,16),(4,17)])]),
  ([6,34,62,90,118],[(30,[(8,122),(4,123)]),(28,[(22,45),(3,46)]),(30,[(8,23),(26,24)]),(30,[(12,15),(28,16)])]),
  ([6,26,50,74,98,122],[(30,[(3,117),(10,118)]),(28,[(3,45),(23,46)]),(30,[(4,24),(31,25)]),(30,[(11,15),(31,16)])]),
  ([6,30,54,78,102,126],[(30,[(7,116),(7,117)]),(28,[(21,45),(7,46)]),(30,[(1,23),(37,24)]),(30,[(19,15),(26,16)])]),
  ([6,26,52,78,104,130],[(30,[(5,115),(10,116)]),(28,[(19,47),(10,48)]),(30,[(15,24),(25,25)]),(30,[(23,15),(25,16)])]),
  ([6,30,56,82,108,134],[(30,[(13,115),(3,116)]),(28,[(2,46),(29,47)]),(30,[(42,24),(1,25)]),(30,[(23,15),(28,16)])]),
  ([6,34,60,86,112,138],[(30,[(17,115)]),(28,[(10,46),(23,47)]),(30,[(10,24),(35,25)]),(30,[(19,15),(35,16)])]),
  ([6,30,58,86,114,142],[(30,[(17,115),(1,116)]),(28,[(14,46),(21,47)]),(30,[(29,24),(19,25)]),(30,[(11,15),(46,16)])]),
  ([6,34,62,90,118,146],[(30,[(13,115),(6,116)]),(28,[(14,46),(23,47)]),(30,[(44,24),(7,25)]),(30,[(59,16),(1,17)])]),
  ([6,30,54,78,102,126,150],[(30,[(12,121),(7,122)]),(28,[(12,47),(26,48)]),(30,[(39,24),(14,25)]),(30,[(22,15),(41,16)])]),
  ([6,24,50,76,102,128,154],[(30,[(6,121),(14,122)]),(28,[(6,47),(34,48)]),(30,[(46,24),(10,25)]),(30,[(2,15),(64,16)])]),
  ([6,28,54,80,106,132,158],[(30,[(17,122),(4,123)]),(28,[(29,46),(14,47)]),(30,[(49,24),(10,25)]),(30,[(24,15),(46,16)])]),
  ([6,32,58,84,110,136,162],[(30,[(4,122),(18,123)]),(28,[(13,46),(32,47)]),(30,[(48,24),(14,25)]),(30,[(42,15),(32,16)])]),
  ([6,26,54,82,110,138,166],[(30,[(20,117),(4,118)]),(28,[(40,47),(7,48)]),(30,[(43,24),(22,25)]),(30,[(10,15),(67,16)])]),
  ([6,30,58,86,114,142,170],[(30,[(19,118),(6,119)]),(28,[(18,47),(31,48)]),(30,[(34,24),(34,25)]),(30,[(20,15),(61,16)])])]
abbrev OpKey:=Op×Option Tmp×Option (Nat×Bool)
def keyOf (o:Oper):OpKey:=(o.op,o.dst,o.guard)
def ci (n:Int):Operand:=.const (.int .i64 n)
def ecbKeys:List (Int×Int)->Nat->List OpKey
 | [],_=>[]
 | p :: L,i=>(.build 221 #[(0,ci p.1),(1,ci p.2)],some i,none) :: ecbKeys L (i+1)
def tmpsAt (i m:Nat):Array (Nat×Operand):=((List.range m).map fun j=>(j,Operand.tmp (i+j))).toArray
def blkKeys (b:Int×List (Int×Int))(i:Nat):List OpKey :=
 ecbKeys b.2 i++[(.buildSlice 222 b.2.length (tmpsAt i b.2.length),some (i+b.2.length),none),(.build 224 #[(0,ci b.1),(1,.tmp (i+b.2.length))],some (i+b.2.length+1),none)]
def blksKeys:List (Int×List (Int×Int))->Nat->List OpKey
 | [],_=>[]
 | b :: L,i=>blkKeys b i++blksKeys L (i+b.2.length+2)
def blksEnd:List (Int×List (Int×Int))->Nat->Nat
 | [],i=>i
 | b :: L,i=>blksEnd L (i+b.2.length+2)
def blksTmps:List (Int×List (Int×Int))->Nat->List Operand
 | [],_=>[]
 | b :: L,i=>.tmp (i+b.2.length+1) :: blksTmps L (i+b.2.length+2)
def enum {α:Type}(L:List α):Array (Nat×α):=(L.zipIdx.map fun p=>(p.2,p.1)).toArray
def bodyKeys (n:Nat)(v:VerRow)(i:Nat):List OpKey :=
 (.buildSlice 93 v.1.length (enum (v.1.map ci)),some i,none) :: (blksKeys v.2 (i+1) ++
  [(.buildSlice 152 4 (enum (blksTmps v.2 (i+1))),some (blksEnd v.2 (i+1)),none),
   (.call { callee:=.value (.func 143),args:=#[ci n,.tmp i,.tmp (blksEnd v.2 (i+1))],argTypes:=#[3,93,152] },some (blksEnd v.2 (i+1)+1),none),
   (.assign (.tmp (blksEnd v.2 (i+1)+1)),some 2,none)])
abbrev Arm:=List OpKey×Operand×List OpKey
def armsFrom:Nat->Nat->List VerRow->List Arm
 | _,_,[]=>[]
 | n,s,v :: L=>([(.binOp .eql 3 (.tmp 3) (ci n) 3,some (s+1),none),(.assign (.tmp (s+1)),some s,none)],.tmp s,bodyKeys n v (s+2)) :: armsFrom (n+1) (blksEnd v.2 (s+3)+2) L
def unchain:Nat->Code->List Arm
 | 0,_=>[]
 | f+1,.seq (.region _ ops false) (.cond c (.seq (.region _ body false) .ret) rest)=>(ops.toList.map keyOf,c,body.toList.map keyOf) :: unchain f rest
 | _,_=>[]
def chainOf (f:Func):Code:=match f.body with
 | some (.seq _ (.seq (.seq _ (.block _ c)) _))=>c
 | _=>.skip
def headOf (f:Func):Code:=match f.body with
 | some (.seq a _)=>a
 | _=>.skip
def head2Of (f:Func):Code:=match f.body with
 | some (.seq _ (.seq (.seq a _) _))=>a
 | _=>.skip
def tailOf (f:Func):Code:=match f.body with
 | some (.seq _ (.seq _ c))=>c
 | _=>.skip
theorem body62:Tryz.f104.body=some (.seq (headOf Tryz.f104) (.seq (.seq (head2Of Tryz.f104) (.block 0 (chainOf Tryz.f104))) (tailOf Tryz.f104))):=by kernel_rfl
def regOps:Code->Array Oper
 | .region _ ops _=>ops
 | _=>#[]
theorem head62:headOf Tryz.f104=.region 0 (regOps (headOf Tryz.f104)) false/\(regOps (headOf Tryz.f104)).toList.map keyOf=[(.assign (.const (.pointer none)),some 2,none)]:=⟨by kernel_rfl,by kernel_rfl⟩
theorem head62b:head2Of Tryz.f104=.region 1 (regOps (head2Of Tryz.f104)) false/\(regOps (head2Of Tryz.f104)).toList.map keyOf=[(.move (.tmp 0),some 3,none)]:=⟨by kernel_rfl,by kernel_rfl⟩
set_option maxRecDepth 100000 in
theorem chain62_eq:unchain 40 (chainOf Tryz.f104)=armsFrom 1 4 verTab:=by kernel_rfl
def WK (ops:Array Oper)(Q:Exit->Act->World->Prop)(keys:List OpKey)(a:Act)(W:World):Prop:=∀ l:List Oper,l.map keyOf=keys->wpList Tryz.prog ops Q l a W
section
variable {ops:Array Oper} {Q:Exit->Act->World->Prop} {ks:List OpKey} {a:Act} {W W':World}
theorem WK_cons {k:OpKey}(h:∀ (o:Oper) (l:List Oper),o.op=k.1->o.dst=k.2.1->o.guard=k.2.2->l.map keyOf=ks->wpList Tryz.prog ops Q (o :: l) a W):WK ops Q (k :: ks) a W:=by
 intro l hl
 cases l with
 | nil=>cases hl
 | cons o l=>
  rw [List.map_cons] at hl
  injection hl with h1 h2
  subst h1
  exact h o l rfl rfl rfl h2
theorem WK_nil (h:Q .normal a W):WK ops Q [] a W:=by
 intro l hl
 cases l with
 | nil=>exact h
 | cons o l=>cases hl
theorem WK_build (t:TypeId)(parts:Array (Nat×Operand))(d:Nat)(vals:Array (Nat×Value))(hv:(parts.map fun p=>(p.1,a.eval p.2))=vals)(v:Value)(hrun:(Instr.build t vals).run Tryz.prog W=.ok v W')
  (k:WK ops Q ks (a.put (some d) v) W'):WK ops Q ((.build t parts,some d,none) :: ks) a W :=
 WK_cons fun o l h1 h2 h3 h4=>wpList_buildV h3 t parts h1 vals hv v hrun (by rw [h2];exact k l h4)
theorem WK_slice (t:TypeId)(n:Nat)(parts:Array (Nat×Operand))(d:Nat)(vals:Array (Nat×Value))(hv:(parts.map fun p=>(p.1,a.eval p.2))=vals)(v:Value)(hrun:(Instr.buildSlice t n vals).run Tryz.prog W=.ok v W')
  (k:WK ops Q ks (a.put (some d) v) W'):WK ops Q ((.buildSlice t n parts,some d,none) :: ks) a W :=
 WK_cons fun o l h1 h2 h3 h4=>wpList_build h3 t n parts h1 vals hv v hrun (by rw [h2];exact k l h4)
theorem WK_assign (x:Operand)(d:Nat)(k:WK ops Q ks (a.put (some d) (a.eval x)) W):WK ops Q ((.assign x,some d,none) :: ks) a W :=
 WK_cons fun o l h1 h2 h3 h4=>wpList_assign h3 x h1 (by rw [h2];exact k l h4)
theorem WK_move (x:Operand)(d:Nat)(k:WK ops Q ks (a.put (some d) (a.eval x)) W):WK ops Q ((.move x,some d,none) :: ks) a W :=
 WK_cons fun o l h1 h2 h3 h4=>wpList_move h3 x h1 (by rw [h2];exact k l h4)
theorem WK_eql (x:Operand)(n c:Int)(d:Nat)(hx:a.eval x=.int .i64 n)(k:WK ops Q ks (a.put (some d) (.bool (n==c))) W):WK ops Q ((.binOp .eql 3 x (ci c) 3,some d,none) :: ks) a W :=
 WK_cons fun o l h1 h2 h3 h4=>wpList_eqlC h3 x n c h1 hx (by rw [h2];exact k l h4)
theorem WK_call (op:Op)(d:Nat)(f:FuncId)(args:Array Value)(hrun:∀ o:Oper,o.op=op->(execOp a.eval o).run Tryz.prog W=.ok (.enter f args) W)(R:Ending->World->Prop)(hc:Calls Tryz.prog f args W R)
  (k:∀ e W',R e W'->∃ v,e=.returned v/\WK ops Q ks (a.put (some d) v) W'):WK ops Q ((op,some d,none) :: ks) a W :=
 WK_cons fun o l h1 h2 h3 h4=>wpList_plain h3 fun K hK=>by
  unfold Oper.wp
  rw [hrun o h1,Oper.upon_enter]
  refine hc.mono fun e w'' hh=>?_
  obtain⟨v,rfl,hw⟩:=k e w'' hh
  refine hK _ _ ?_
  rw [h2]
  exact hw l h4
end
structure Ext (a a':Act)(i:Nat):Prop where
 size:a'.tmps.size=a.tmps.size
 defers:a'.defers=a.defers
 same:∀ j,j<i->a'.eval (.tmp j)=a.eval (.tmp j)
theorem Ext.refl (a:Act)(i:Nat):Ext a a i:=⟨rfl,rfl,fun _ _=>rfl⟩
theorem Ext.put {a a':Act}{i:Nat}(h:Ext a a' i)(d:Nat)(v:Value)(hd:i<=d):Ext a (a'.put (some d) v) i :=
 ⟨by rw [Act.size_put,h.size],by rw [Act.defers_put',h.defers],fun j hj=>by rw [Act.eval_put_ne _ _ _ _ (by omega),h.same j hj]⟩
theorem Ext.trans {a b c:Act}{i j:Nat}(h:Ext a b i)(k:Ext b c j)(hij:i<=j):Ext a c i:=⟨k.size.trans h.size,k.defers.trans h.defers,fun n hn=>(k.same n (by omega)).trans (h.same n hn)⟩
theorem Ext.mono {a b:Act}{i j:Nat}(h:Ext a b j)(hij:i<=j):Ext a b i:=⟨h.size,h.defers,fun n hn=>h.same n (by omega)⟩
section
variable {ops:Array Oper} {Q:Exit->Act->World->Prop} {ks:List OpKey} {a:Act} {W W':World}
set_option maxRecDepth 100000 in
theorem block_wp (b:Int×List (Int×Int))(i:Nat)(hb:b.2.length=1\/b.2.length=2)(hs:i+b.2.length+1<a.tmps.size)
  (k:∀ a',Ext a a' i->a'.eval (.tmp (i+b.2.length+1))=.agg #[.int .i64 b.1,.slice (some ⟨W.heap.size,0,none⟩) b.2.length b.2.length]->WK ops Q ks a' (W.alloc (.cells (ecbCells b.2).toArray 221))) :
  WK ops Q (blkKeys b i++ks) a W:=by
 obtain⟨ec,L⟩:=b
 match L,hb,hs,k with
 | [(c,d)],_,hs,k=>
  have hs:i+2<a.tmps.size:=hs
  refine WK_build 221 #[(0,ci c),(1,ci d)] i #[(0,.int .i64 c),(1,.int .i64 d)] (by kernel_rfl) _ (run_ecb c d W) ?_
  refine WK_slice 222 1 #[(0,.tmp i)] (i+1) #[(0,.agg #[.int .i64 c,.int .i64 d])] ?_ _ (run_ecbs1 c d W) ?_
  ·rw [show (#[(0,Operand.tmp i)]:Array (Nat×Operand)).map (fun p=>(p.1,(a.put (some i) (.agg #[.int .i64 c,.int .i64 d])).eval p.2))=#[(0,(a.put (some i) (.agg #[.int .i64 c,.int .i64 d])).eval (.tmp i))] from by kernel_rfl,Act.eval_put_same _ _ _ (by omega)]
  refine WK_build 224 #[(0,ci ec),(1,.tmp (i+1))] (i+1+1) #[(0,.int .i64 ec),(1,.slice (some ⟨W.heap.size,0,none⟩) 1 1)] ?_ _ (run_blk ec W.heap.size 1 _) ?_
  ·rw [show ∀ A:Act,(#[(0,ci ec),(1,Operand.tmp (i+1))]:Array (Nat×Operand)).map (fun p=>(p.1,A.eval p.2))=#[(0,.int .i64 ec),(1,A.eval (.tmp (i+1)))] from fun _=>by kernel_rfl,Act.eval_put_same _ _ _ (by rw [Act.size_put];omega)]
  refine k _ ((((Ext.refl a i).put i _ (by omega)).put (i+1) _ (by omega)).put (i+1+1) _ (by omega)) ?_
  exact Act.eval_put_same _ _ _ (by rw [Act.size_put,Act.size_put];omega)
 | [(c,d),(e,f)],_,hs,k=>
  have hs:i+3<a.tmps.size:=hs
  refine WK_build 221 #[(0,ci c),(1,ci d)] i #[(0,.int .i64 c),(1,.int .i64 d)] (by kernel_rfl) _ (run_ecb c d W) ?_
  refine WK_build 221 #[(0,ci e),(1,ci f)] (i+1) #[(0,.int .i64 e),(1,.int .i64 f)] (by kernel_rfl) _ (run_ecb e f W) ?_
  refine WK_slice 222 2 #[(0,.tmp i),(1,.tmp (i+1))] (i+2) #[(0,.agg #[.int .i64 c,.int .i64 d]),(1,.agg #[.int .i64 e,.int .i64 f])] ?_ _ (run_ecbs2 c d e f W) ?_
  ·rw [show ∀ A:Act,(#[(0,Operand.tmp i),(1,Operand.tmp (i+1))]:Array (Nat×Operand)).map (fun p=>(p.1,A.eval p.2))=#[(0,A.eval (.tmp i)),(1,A.eval (.tmp (i+1)))] from fun _=>by kernel_rfl,Act.eval_put_same _ _ _ (by rw [Act.size_put];omega),Act.eval_put_ne _ _ _ _ (by omega),Act.eval_put_same _ _ _ (by omega)]
  refine WK_build 224 #[(0,ci ec),(1,.tmp (i+2))] (i+2+1) #[(0,.int .i64 ec),(1,.slice (some ⟨W.heap.size,0,none⟩) 2 2)] ?_ _ (run_blk ec W.heap.size 2 _) ?_
  ·rw [show ∀ A:Act,(#[(0,ci ec),(1,Operand.tmp (i+2))]:Array (Nat×Operand)).map (fun p=>(p.1,A.eval p.2))=#[(0,.int .i64 ec),(1,A.eval (.tmp (i+2)))] from fun _=>by kernel_rfl,Act.eval_put_same _ _ _ (by rw [Act.size_put,Act.size_put];omega)]
  refine k _ (((((Ext.refl a i).put i _ (by omega)).put (i+1) _ (by omega)).put (i+2) _ (by omega)).put (i+2+1) _ (by omega)) ?_
  exact Act.eval_put_same _ _ _ (by rw [Act.size_put,Act.size_put,Act.size_put];omega)
end
def esCells (v:VerRow)(g:Nat->Nat):Array Value:=match v.2 with
 | [b0,b1,b2,b3]=>#[.int .i64 b0.1,.slice (some ⟨g 0,0,none⟩) b0.2.length b0.2.length,.int .i64 b1.1,.slice (some ⟨g 1,0,none⟩) b1.2.length b1.2.length,
   .int .i64 b2.1,.slice (some ⟨g 2,0,none⟩) b2.2.length b2.2.length,.int .i64 b3.1,.slice (some ⟨g 3,0,none⟩) b3.2.length b3.2.length]
 | _=>#[]
def rowTot (v:VerRow):Int:=ecbTot (v.2.getD 0 (0,[])).1 (v.2.getD 0 (0,[])).2 (v.2.getD 0 (0,[])).2.length
def VerAt (w:World)(p:Nat)(n:Int)(v:VerRow):Prop:=∃ gc ge:Nat,∃ g:Nat->Nat,
 Blk w p 154 #[.int .i64 n,.slice (some ⟨gc,0,none⟩) v.1.length v.1.length,.slice (some ⟨ge,0,none⟩) 4 4,.int .i64 (rowTot v)]/\Blk w gc 3 (nums .i64 v.1).toArray/\Blk w ge 224 (esCells v g)/\
 ∀ l,l<4->Blk w (g l) 221 (ecbCells (v.2.getD l (0,[])).2).toArray
theorem VerAt.below {w w':World}{p B:Nat}{n:Int}{v:VerRow}(h:VerAt w p n v)(hb:Below B w w')(hB:w.heap.size<=B):VerAt w' p n v:=by
 obtain⟨gc,ge,g,h1,h2,h3,h4⟩:=h
 exact⟨gc,ge,g,h1.below hb (by have:=h1.lt;omega),h2.below hb (by have:=h2.lt;omega),h3.below hb (by have:=h3.lt;omega),fun l hl=>(h4 l hl).below hb (by have:=(h4 l hl).lt;omega)⟩
structure RowOK (v:VerRow):Prop where
 four:v.2.length=4
 cents:v.1.length<=7
 grp:∀ b∈v.2,b.2.length=1\/b.2.length=2
 ec:∀ b∈v.2,0<=b.1/\b.1<=100
 lim:∀ b∈v.2,∀ q∈b.2,0<=q.1/\q.1<=100/\0<=q.2/\q.2<=1000
theorem rows_ok:∀ v∈verTab,RowOK v:=by
 have h:∀ v∈verTab,v.2.length=4/\v.1.length<=7/\(∀ b∈v.2,b.2.length=1\/b.2.length=2)/\(∀ b∈v.2,0<=b.1/\b.1<=100)/\(∀ b∈v.2,∀ q∈b.2,0<=q.1/\q.1<=100/\0<=q.2/\q.2<=1000):=by decide +kernel
 intro v hv
 obtain⟨h1,h2,h3,h4,h5⟩:=h v hv
 exact⟨h1,h2,h3,h4,h5⟩
def enumV (L:List Int):Array (Nat×Value):=enum (L.map fun n=>Value.int .i64 n)
theorem run_cents:∀ (cs:List Int) (hl:cs.length<=7) (W:World),(Instr.buildSlice 93 cs.length (enumV cs)).run Tryz.prog W=.ok (.slice (some ⟨W.heap.size,0,none⟩) cs.length cs.length) (W.alloc (.cells (nums .i64 cs).toArray 3))
 | [],_,W=>by kernel_rfl
 | [a],_,W=>by kernel_rfl
 | [a,b],_,W=>by kernel_rfl
 | [a,b,c],_,W=>by kernel_rfl
 | [a,b,c,d],_,W=>by kernel_rfl
 | [a,b,c,d,e],_,W=>by kernel_rfl
 | [a,b,c,d,e,f],_,W=>by kernel_rfl
 | [a,b,c,d,e,f,g],_,W=>by kernel_rfl
 | _ :: _ :: _ :: _ :: _ :: _ :: _ :: _ :: _,h,_=>by simp at h
theorem eval_cents:∀ (cs:List Int) (hl:cs.length<=7) (A:Act),((enum (cs.map ci)).map fun p=>(p.1,A.eval p.2))=enumV cs
 | [],_,A=>by kernel_rfl
 | [a],_,A=>by kernel_rfl
 | [a,b],_,A=>by kernel_rfl
 | [a,b,c],_,A=>by kernel_rfl
 | [a,b,c,d],_,A=>by kernel_rfl
 | [a,b,c,d,e],_,A=>by kernel_rfl
 | [a,b,c,d,e,f],_,A=>by kernel_rfl
 | [a,b,c,d,e,f,g],_,A=>by kernel_rfl
 | _ :: _ :: _ :: _ :: _ :: _ :: _ :: _ :: _,h,_=>by simp at h
section
variable {ops:Array Oper} {Q:Exit->Act->World->Prop} {a:Act} {W:World}
theorem run_call (A:Act)(n:Int)(i e:Nat)(x y:Value)(hx:A.eval (.tmp i)=x)(hy:A.eval (.tmp e)=y)(W:World)(o:Oper)(ho:o.op=.call { callee:=.value (.func 143),args:=#[ci n,.tmp i,.tmp e],argTypes:=#[3,93,152] }) :
  (execOp A.eval o).run Tryz.prog W=.ok (.enter 143 #[.int .i64 n,x,y]) W:=by
 subst hx hy
 unfold execOp
 rw [ho]
 kernel_rfl
set_option maxRecDepth 100000 in
theorem body_wp (n:Nat)(v:VerRow)(i:Nat)(ok:RowOK v)(h2:2<i)(hs:blksEnd v.2 (i+1)+1<a.tmps.size)
  (k:∀ a' W' p,a'.tmps.size=a.tmps.size->a'.defers=a.defers->a'.eval (.tmp 2)=.pointer (some ⟨p,0,none⟩)->W.heap.size<=p->VerAt W' p (n:Int) v->Below W.heap.size W W'->Q .normal a' W'):WK ops Q (bodyKeys n v i) a W:=by
 obtain⟨cs,bs⟩:=v
 obtain⟨b0,b1,b2,b3,rfl⟩:∃ b0 b1 b2 b3,bs=[b0,b1,b2,b3]:=by
  match bs,ok.four with
  | [b0,b1,b2,b3],_=>exact⟨b0,b1,b2,b3,rfl⟩
 have g0:=ok.grp b0 (by simp)
 have g1:=ok.grp b1 (by simp)
 have g2:=ok.grp b2 (by simp)
 have g3:=ok.grp b3 (by simp)
 have hcs:cs.length<=7:=ok.cents
 have hec:=ok.ec b0 (by simp)
 have hlim:=ok.lim b0 (by simp)
 obtain⟨i1,e1⟩:∃ i1,i1=i+1+b0.2.length+2:=⟨_,rfl⟩
 obtain⟨i2,e2⟩:∃ i2,i2=i1+b1.2.length+2:=⟨_,rfl⟩
 obtain⟨i3,e3⟩:∃ i3,i3=i2+b2.2.length+2:=⟨_,rfl⟩
 obtain⟨i4,e4⟩:∃ i4,i4=i3+b3.2.length+2:=⟨_,rfl⟩
 have hend:blksEnd [b0,b1,b2,b3] (i+1)=i4:=by rw [blksEnd,blksEnd,blksEnd,blksEnd,blksEnd,e4,e3,e2,e1]
 have hs:i4+1<a.tmps.size:=by rw [<- hend];exact hs
 have hkeys:bodyKeys n (cs,[b0,b1,b2,b3]) i=(.buildSlice 93 cs.length (enum (cs.map ci)),some i,none) :: (blkKeys b0 (i+1)++(blkKeys b1 i1++(blkKeys b2 i2++(blkKeys b3 i3 ++
   [(.buildSlice 152 4 #[(0,.tmp (i+1+b0.2.length+1)),(1,.tmp (i1+b1.2.length+1)),(2,.tmp (i2+b2.2.length+1)),(3,.tmp (i3+b3.2.length+1))],some i4,none),
    (.call { callee:=.value (.func 143),args:=#[ci n,.tmp i,.tmp i4],argTypes:=#[3,93,152] },some (i4+1),none),(.assign (.tmp (i4+1)),some 2,none)])))):=by
  unfold bodyKeys
  simp only [hend,blksKeys,List.append_assoc,List.nil_append,<- e1,<- e2,<- e3,<- e4]
  rw [show enum (blksTmps [b0,b1,b2,b3] (i+1))=#[(0,Operand.tmp (i+1+b0.2.length+1)),(1,.tmp (i+1+b0.2.length+2+b1.2.length+1)),(2,.tmp (i+1+b0.2.length+2+b1.2.length+2+b2.2.length+1)),(3,.tmp (i+1+b0.2.length+2+b1.2.length+2+b2.2.length+2+b3.2.length+1))] from by kernel_rfl,<- e1,<- e2,<- e3]
 rw [hkeys]
 refine WK_slice 93 cs.length _ i (enumV cs) (eval_cents cs hcs _) _ (run_cents cs hcs W) ?_
 obtain⟨a0,ha0⟩:∃ a0,a0=a.put (some i) (.slice (some ⟨W.heap.size,0,none⟩) cs.length cs.length):=⟨_,rfl⟩
 have s0:a0.tmps.size=a.tmps.size:=by rw [ha0,Act.size_put]
 have d0:a0.defers=a.defers:=by rw [ha0,Act.defers_put']
 have v0:a0.eval (.tmp i)=.slice (some ⟨W.heap.size,0,none⟩) cs.length cs.length:=by rw [ha0];exact Act.eval_put_same _ _ _ (by omega)
 rw [<- ha0]
 obtain⟨W0,hW0⟩:∃ W0,W0=W.alloc (.cells (nums .i64 cs).toArray 3):=⟨_,rfl⟩
 rw [<- hW0]
 refine block_wp b0 (i+1) g0 (by omega) fun a1 x1 u1=>?_
 obtain⟨W1,hW1⟩:∃ W1,W1=W0.alloc (.cells (ecbCells b0.2).toArray 221):=⟨_,rfl⟩
 rw [<- hW1]
 refine block_wp b1 i1 g1 (by rw [x1.size];omega) fun a2 x2 u2=>?_
 obtain⟨W2,hW2⟩:∃ W2,W2=W1.alloc (.cells (ecbCells b1.2).toArray 221):=⟨_,rfl⟩
 rw [<- hW2]
 refine block_wp b2 i2 g2 (by rw [x2.size,x1.size];omega) fun a3 x3 u3=>?_
 obtain⟨W3,hW3⟩:∃ W3,W3=W2.alloc (.cells (ecbCells b2.2).toArray 221):=⟨_,rfl⟩
 rw [<- hW3]
 refine block_wp b3 i3 g3 (by rw [x3.size,x2.size,x1.size];omega) fun a4 x4 u4=>?_
 obtain⟨W4,hW4⟩:∃ W4,W4=W3.alloc (.cells (ecbCells b3.2).toArray 221):=⟨_,rfl⟩
 rw [<- hW4]
 have t0:a4.eval (.tmp (i+1+b0.2.length+1))=.agg #[.int .i64 b0.1,.slice (some ⟨W0.heap.size,0,none⟩) b0.2.length b0.2.length]:=by
  rw [x4.same _ (by omega),x3.same _ (by omega),x2.same _ (by omega),u1]
 have t1:a4.eval (.tmp (i1+b1.2.length+1))=.agg #[.int .i64 b1.1,.slice (some ⟨W1.heap.size,0,none⟩) b1.2.length b1.2.length]:=by
  rw [x4.same _ (by omega),x3.same _ (by omega),u2]
 have t2:a4.eval (.tmp (i2+b2.2.length+1))=.agg #[.int .i64 b2.1,.slice (some ⟨W2.heap.size,0,none⟩) b2.2.length b2.2.length]:=by
  rw [x4.same _ (by omega),u3]
 have ti:a4.eval (.tmp i)=.slice (some ⟨W.heap.size,0,none⟩) cs.length cs.length:=by
  rw [x4.same _ (by omega),x3.same _ (by omega),x2.same _ (by omega),x1.same _ (by omega),v0]
 have sz:a4.tmps.size=a.tmps.size:=by rw [x4.size,x3.size,x2.size,x1.size,s0]
 have df:a4.defers=a.defers:=by rw [x4.defers,x3.defers,x2.defers,x1.defers,d0]
 refine WK_slice 152 4 _ i4 #[(0,.agg #[.int .i64 b0.1,.slice (some ⟨W0.heap.size,0,none⟩) b0.2.length b0.2.length]),(1,.agg #[.int .i64 b1.1,.slice (some ⟨W1.heap.size,0,none⟩) b1.2.length b1.2.length]),(2,.agg #[.int .i64 b2.1,.slice (some ⟨W2.heap.size,0,none⟩) b2.2.length b2.2.length]),(3,.agg #[.int .i64 b3.1,.slice (some ⟨W3.heap.size,0,none⟩) b3.2.length b3.2.length])] ?_ _ (run_blks _ _ _ _ _ _ _ _ _ _ _ _ W4) ?_
 ·rw [show ∀ (A:Act) (q0 q1 q2 q3:Nat),(#[(0,Operand.tmp q0),(1,Operand.tmp q1),(2,Operand.tmp q2),(3,Operand.tmp q3)]:Array (Nat×Operand)).map (fun p=>(p.1,A.eval p.2))=#[(0,A.eval (.tmp q0)),(1,A.eval (.tmp q1)),(2,A.eval (.tmp q2)),(3,A.eval (.tmp q3))] from fun _ _ _ _ _=>by kernel_rfl,t0,t1,t2,u4]
 obtain⟨W5,hW5⟩:∃ W5,W5=W4.alloc (.cells #[.int .i64 b0.1,.slice (some ⟨W0.heap.size,0,none⟩) b0.2.length b0.2.length,.int .i64 b1.1,.slice (some ⟨W1.heap.size,0,none⟩) b1.2.length b1.2.length,.int .i64 b2.1,.slice (some ⟨W2.heap.size,0,none⟩) b2.2.length b2.2.length,.int .i64 b3.1,.slice (some ⟨W3.heap.size,0,none⟩) b3.2.length b3.2.length] 224):=⟨_,rfl⟩
 rw [<- hW5]
 have k0:Blk W5 W.heap.size 3 (nums .i64 cs).toArray:=by
  rw [hW5,hW4,hW3,hW2,hW1,hW0]
  exact (((((Blk.new W 3 _).alloc _).alloc _).alloc _).alloc _).alloc _
 have k1:Blk W5 W0.heap.size 221 (ecbCells b0.2).toArray:=by
  rw [hW5,hW4,hW3,hW2,hW1]
  exact ((((Blk.new W0 221 _).alloc _).alloc _).alloc _).alloc _
 have k2:Blk W5 W1.heap.size 221 (ecbCells b1.2).toArray:=by
  rw [hW5,hW4,hW3,hW2]
  exact (((Blk.new W1 221 _).alloc _).alloc _).alloc _
 have k3:Blk W5 W2.heap.size 221 (ecbCells b2.2).toArray:=by
  rw [hW5,hW4,hW3]
  exact ((Blk.new W2 221 _).alloc _).alloc _
 have k4:Blk W5 W3.heap.size 221 (ecbCells b3.2).toArray:=by
  rw [hW5,hW4]
  exact (Blk.new W3 221 _).alloc _
 have k5:Blk W5 W4.heap.size 224 #[.int .i64 b0.1,.slice (some ⟨W0.heap.size,0,none⟩) b0.2.length b0.2.length,.int .i64 b1.1,.slice (some ⟨W1.heap.size,0,none⟩) b1.2.length b1.2.length,.int .i64 b2.1,.slice (some ⟨W2.heap.size,0,none⟩) b2.2.length b2.2.length,.int .i64 b3.1,.slice (some ⟨W3.heap.size,0,none⟩) b3.2.length b3.2.length]:=by
  rw [hW5]
  exact Blk.new W4 224 _
 have hb5:Below W.heap.size W W5:=by
  rw [hW5,hW4,hW3,hW2,hW1,hW0]
  repeat (first | exact Below.refl _ _ | apply below_alloc)
 have hc:=newVer W5 (n:Int) b0.1 W.heap.size cs.length W4.heap.size W0.heap.size b0.2.length _ b0.2 rfl (by omega) k5 rfl rfl k1 hec hlim
 refine WK_call _ (i4+1) 143 #[.int .i64 (n:Int),.slice (some ⟨W.heap.size,0,none⟩) cs.length cs.length,.slice (some ⟨W4.heap.size,0,none⟩) 4 4] (fun o ho=>run_call _ n i i4 _ _ ?_ ?_ W5 o ho) _ hc ?_
 ·rw [Act.eval_put_ne _ _ _ _ (by omega),ti]
 ·exact Act.eval_put_same _ _ _ (by omega)
 rintro e W' ⟨p,rfl,hp,hbw,hblk⟩
 refine⟨_,rfl,?_⟩
 refine WK_assign _ 2 (WK_nil ?_)
 refine k _ W' p (by rw [Act.size_put,Act.size_put,Act.size_put,sz]) (by rw [Act.defers_put',Act.defers_put',Act.defers_put',df]) ?_ (Nat.le_trans hb5.size hp) ?_ (hb5.trans (hbw.mono hb5.size))
 ·rw [Act.eval_put_same _ _ _ (by rw [Act.size_put,Act.size_put];omega)]
  exact Act.eval_put_same _ _ _ (by rw [Act.size_put];omega)
 ·refine⟨W.heap.size,W4.heap.size,fun l=>match l with | 0=>W0.heap.size | 1=>W1.heap.size | 2=>W2.heap.size | _=>W3.heap.size,hblk,k0.below hbw k0.lt,k5.below hbw k5.lt,?_⟩
  intro l hl
  match l,hl with
  | 0,_=>exact k1.below hbw k1.lt
  | 1,_=>exact k2.below hbw k2.lt
  | 2,_=>exact k3.below hbw k3.lt
  | 3,_=>exact k4.below hbw k4.lt
end
theorem unchain_cons {f:Nat}{c:Code}{A:Arm}{As:List Arm}(h:unchain (f+1) c=A :: As) :
  ∃ (i1 i2:Nat) (ops body:Array Oper) (x:Operand) (rest:Code),c=.seq (.region i1 ops false) (.cond x (.seq (.region i2 body false) .ret) rest)/\ops.toList.map keyOf=A.1/\x=A.2.1/\body.toList.map keyOf=A.2.2/\unchain f rest=As:=by
 unfold unchain at h
 split at h
 ·cases h
 ·rename_i f' _ _ _ _ _ _ heq
  obtain rfl:f=f':=by omega
  injection h with h1 h2
  subst h1
  exact⟨_,_,_,_,_,_,rfl,rfl,rfl,rfl,h2⟩
 ·cases h
theorem blksEnd_ge:∀ (L:List (Int×List (Int×Int))) (i:Nat),i<=blksEnd L i:=by
 intro L
 induction L with
 | nil=>intro i;exact Nat.le_refl _
 | cons b L ih=>intro i;rw [blksEnd];exact Nat.le_trans (by omega) (ih _)
def chainEnd:Nat->List VerRow->Nat
 | s,[]=>s
 | s,v :: L=>chainEnd (blksEnd v.2 (s+3)+2) L
theorem chainEnd_ge:∀ (L:List VerRow) (s:Nat),s<=chainEnd s L:=by
 intro L
 induction L with
 | nil=>intro s;exact Nat.le_refl _
 | cons v L ih=>intro s;rw [chainEnd];exact Nat.le_trans (by have:=blksEnd_ge v.2 (s+3);omega) (ih _)
theorem chain_wp (Q:Exit->Act->World->Prop)(n:Nat)(W:World)(N:Nat):∀ (L:List VerRow) (m s f:Nat) (c:Code) (a:Act),unchain f c=armsFrom m s L->m<=n->n<m+L.length->(∀ v∈L,RowOK v)->
  a.eval (.tmp 3)=.int .i64 (n:Int)->3<s->chainEnd s L<=a.tmps.size->a.tmps.size=N->a.defers=[]->
  (∀ a' W' p,a'.tmps.size=N->a'.defers=[]->a'.eval (.tmp 2)=.pointer (some ⟨p,0,none⟩)->W.heap.size<=p->VerAt W' p (n:Int) (L.getD (n-m) ([],[]))->Below W.heap.size W W'->Q .ret a' W')->c.wp Tryz.prog Q a W:=by
 intro L
 induction L with
 | nil=>intro m s f c a _ h1 h2;simp at h2;omega
 | cons v L ih=>
  intro m s f c a hu h1 h2 hok h3 hs hsz hN hdf k
  rw [armsFrom] at hu
  cases f with
  | zero=>cases hu
  | succ f=>
   obtain⟨i1,i2,ops,body,x,rest,rfl,ho,rfl,hb,hr⟩:=unchain_cons hu
   rw [chainEnd] at hsz
   have hge:=chainEnd_ge L (blksEnd v.2 (s+3)+2)
   have hge2:=blksEnd_ge v.2 (s+3)
   refine wp_seq (wp_region_list ?_)
   revert ho
   refine fun ho=>(?_:WK ops (Exit.then ((Code.cond (Operand.tmp s) (.seq (.region i2 body false) .ret) rest).wp Tryz.prog Q) Q) [(.binOp .eql 3 (.tmp 3) (ci m) 3,some (s+1),none),(.assign (.tmp (s+1)),some s,none)] a W) _ ho
   refine WK_eql _ (n:Int) (m:Int) (s+1) h3 (WK_assign _ s (WK_nil ?_))
   have e1:(a.put (some (s+1)) (.bool ((n:Int)==(m:Int)))).eval (.tmp (s+1))=.bool ((n:Int)==(m:Int)):=Act.eval_put_same _ _ _ (by omega)
   rw [e1]
   obtain⟨a2,ha2⟩:∃ a2,a2=(a.put (some (s+1)) (.bool ((n:Int)==(m:Int)))).put (some s) (.bool ((n:Int)==(m:Int))):=⟨_,rfl⟩
   rw [<- ha2]
   have z2:a2.tmps.size=a.tmps.size:=by rw [ha2,Act.size_put,Act.size_put]
   have f2:a2.defers=[]:=by rw [ha2,Act.defers_put',Act.defers_put',hdf]
   have b2:a2.eval (.tmp s)=.bool ((n:Int)==(m:Int)):=by rw [ha2];exact Act.eval_put_same _ _ _ (by rw [Act.size_put];omega)
   have c2:a2.eval (.tmp 3)=.int .i64 (n:Int):=by rw [ha2,Act.eval_put_ne _ _ _ _ (by omega),Act.eval_put_ne _ _ _ _ (by omega),h3]
   show (Code.cond (Operand.tmp s) (.seq (.region i2 body false) .ret) rest).wp Tryz.prog Q a2 W
   by_cases e:n=m
   ·subst e
    refine wp_cond_true (by rw [b2];simp) ?_
    refine wp_seq (wp_region_list ?_)
    refine (?_:WK body (Exit.then (Code.ret.wp Tryz.prog Q) Q) (bodyKeys n v (s+2)) a2 W) _ hb
    refine body_wp n v (s+2) (hok v (List.mem_cons_self ..)) (by omega) (by rw [z2,show s+2+1=s+3 from rfl];omega) ?_
    intro a' W' p q1 q2 q3 q4 q5 q6
    refine wp_ret ?_
    refine k a' W' p (by omega) (by rw [q2,f2]) q3 q4 ?_ q6
    rw [Nat.sub_self]
    exact q5
   ·refine wp_cond_false (by rw [b2];simp;omega) ?_
    refine ih (m+1) (blksEnd v.2 (s+3)+2) f rest a2 hr (by omega) (by rw [List.length_cons] at h2;omega) (fun v' hv'=>hok v' (List.mem_cons_of_mem _ hv')) c2 (by omega) (by omega) (by omega) f2 ?_
    intro a' W' p q1 q2 q3 q4 q5 q6
    refine k a' W' p q1 q2 q3 q4 ?_ q6
    rw [show n-m=(n-(m+1))+1 by omega,List.getD_cons_succ]
    exact q5
def verRow (n:Nat):VerRow:=verTab.getD (n-1) ([],[])
theorem tmps104:Tryz.f104.ntmps=chainEnd 4 verTab:=by kernel_rfl
theorem results104:Tryz.f104.results=#[.tmp 2]:=by kernel_rfl
theorem versionOf_any (w:World)(n:Nat)(h:1<=n/\n<=40) :
  Calls Tryz.prog 104 #[.int .i64 (n:Int)] w fun e w'=>∃ p,e=.returned (.pointer (some ⟨p,0,none⟩))/\w.heap.size<=p/\VerAt w' p (n:Int) (verRow n)/\Below w.heap.size w w':=by
 refine calls_of_wp Tryz.func104 body62 ?_
 have hnt:=tmps104
 have hge:=chainEnd_ge verTab 4
 obtain⟨a,ha⟩:∃ a:Act,a={ tmps:=#[Value.int .i64 (n:Int)]++Array.replicate (Tryz.f104.ntmps-(#[Value.int .i64 (n:Int)]:Array Value).size) undef,defers:=[] }:=⟨_,rfl⟩
 have hsz:a.tmps.size=chainEnd 4 verTab:=by
  rw [ha]
  show (#[Value.int .i64 (n:Int)]++Array.replicate (Tryz.f104.ntmps-1) undef).size=_
  rw [Array.size_append,Array.size_replicate,hnt]
  show 1+_=_
  omega
 have hdf:a.defers=[]:=by rw [ha]
 have h0:a.eval (.tmp 0)=.int .i64 (n:Int):=by
  rw [ha]
  unfold Act.eval
  simp
 rw [<- ha]
 obtain⟨k1,k2⟩:=head62
 obtain⟨k3,k4⟩:=head62b
 refine wp_seq ?_
 rw [k1]
 refine wp_region_list ?_
 refine (?_:WK _ _ _ a w) _ k2
 refine WK_assign _ 2 (WK_nil ?_)
 show Code.wp Tryz.prog _ _ _ w
 refine wp_seq (wp_seq ?_)
 rw [k3]
 refine wp_region_list ?_
 refine (?_:WK _ _ _ _ w) _ k4
 refine WK_move _ 3 (WK_nil ?_)
 show Code.wp Tryz.prog _ _ _ w
 refine wp_block ?_
 have z:∀ (v1 v2:Value),((a.put (some 2) v1).put (some 3) v2).tmps.size=chainEnd 4 verTab:=fun v1 v2=>by rw [Act.size_put,Act.size_put,hsz]
 refine chain_wp _ n w (chainEnd 4 verTab) verTab 1 4 40 _ _ chain62_eq h.1 (by show n<1+40;omega) rows_ok ?_ (by omega) (by rw [z];exact Nat.le_refl _) (z _ _) (by rw [Act.defers_put',Act.defers_put',hdf]) ?_
 ·rw [Act.eval_put_same _ _ _ (by rw [Act.size_put,hsz];omega),Act.eval_put_ne _ _ _ _ (by omega),h0]
 ·intro a' W' p q1 q2 q3 q4 q5 q6
  have hgoal:bodyPost Tryz.prog Tryz.f104 (fun e w'=>∃ p,e=.returned (.pointer (some ⟨p,0,none⟩))/\w.heap.size<=p/\VerAt w' p (n:Int) (verRow n)/\Below w.heap.size w w') .ret a' W':=by
   refine bodyPost_ret (v:=.pointer (some ⟨p,0,none⟩)) ?_ q2 ⟨p,rfl,q4,q5,q6⟩
   rw [show results Tryz.f104 a'.tmps=results { Tryz.f104 with results:=#[.tmp 2] } a'.tmps from by unfold results;rw [results104]]
   have:(a'.tmps[2]?.getD undef)=.pointer (some ⟨p,0,none⟩):=by simpa [Act.eval] using q3
   simp [results,go_sem,this]
  exact hgoal
end Go.Proofs.YtgccjgpdjkhpdaaGreat.B
