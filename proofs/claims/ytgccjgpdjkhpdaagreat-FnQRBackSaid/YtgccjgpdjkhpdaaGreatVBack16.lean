import Derived.Laws.EntriesVeiled
import Derived.Test.YtgccjgpdjkhpdaaGreatVBack11
import Derived.Test.YtgccjgpdjkhpdaaGreatVBack15
/-! Own texts of this claim, part 16. -/
namespace Go.Proofs.YtgccjgpdjkhpdaaGreat.B
open Go.RowKit Go.Proofs.YtgccjgpdjkhpdaaGreatW.PrintWords Go.Proofs.YtgccjgpdjkhpdaaGreatW.PrintLast Go.Proofs.YtgccjgpdjkhpdaaGreatW.PrintMore
set_option linter.unusedVariables false
set_option linter.unusedSimpArgs false
theorem bitQ_nat (x b:Nat)(hx:x<2147483648)(hb:b<64):bitQ (x:Int) (b:Int)=x.testBit b:=by
 unfold bitQ shr
 have e1:((x:Int)/2 ^ min ((b:Nat):Int).toNat (IntKind.bits .i64))=((x/2 ^ b:Nat):Int):=by
  rw [Int.toNat_natCast,show min b (IntKind.bits .i64)=b from Nat.min_eq_left (by show b<=64;omega),Int.natCast_ediv,Int.natCast_pow]
  rfl
 have hle:x/2 ^ b<=x:=Nat.div_le_self _ _
 have e2:=i64_and_nat (x/2 ^ b) 1 (by omega) (by omega)
 rw [e1,show (1:Int)=((1:Nat):Int) from rfl,e2,Nat.and_one_is_mod,Nat.testBit_eq_decide_div_mod_eq]
 by_cases h:x/2 ^ b%2=1
 ·rw [h];rfl
 ·rw [show x/2 ^ b%2=0 by omega];rfl
theorem nacc_congr {g h:Nat->Bool}:∀ n,(∀ k,k<n->g k=h k)->nacc g n=nacc h n:=by
 intro n
 induction n with
 | zero=>intro _;rfl
 | succ n ih=>intro e;rw [nacc,nacc,ih (fun k hk=>e k (by omega)),e n (by omega)]
theorem nacc_num (x n:Nat)(hx:x<2 ^ n):nacc (fun k=>x.testBit (n-1-k)) n=x:=by
 have h:∀ k,k<=n->nacc (fun k=>x.testBit (n-1-k)) k=x/2 ^ (n-k):=by
  intro k
  induction k with
  | zero=>intro _;rw [nacc,Nat.sub_zero,Nat.div_eq_of_lt hx]
  | succ k ih=>
   intro hk
   rw [nacc,ih (by omega),show n-k=(n-(k+1))+1 by omega,Nat.pow_succ,<- Nat.div_div_eq_div_mul,show n-1-k=n-(k+1) by omega,Nat.testBit_eq_decide_div_mod_eq]
   by_cases e:x/2 ^ (n-(k+1))%2=1
   ·rw [decide_eq_true e]
    show 2*(x/2 ^ (n-(k+1))/2)+1=_
    omega
   ·rw [decide_eq_false e]
    show 2*(x/2 ^ (n-(k+1))/2)+0=_
    omega
 have:=h n (Nat.le_refl _)
 rwa [Nat.sub_self,Nat.pow_zero,Nat.div_one] at this
theorem cellOf_rows (n:Nat)(cf:Nat->Nat->Bool)(x y:Nat)(hx:x<n)(hy:y<n):cellOf (rowsOfB n cf n) x y=cf y x:=by
 unfold cellOf rowsOfB
 rw [List.getD_eq_getElem?_getD,List.getD_eq_getElem?_getD,List.getElem?_map,List.getElem?_range hy]
 simp only [Option.map_some,Option.getD_some]
 unfold rowOfB
 rw [List.getElem?_map,List.getElem?_range hx]
 rfl
theorem rowsOfB_square (n:Nat)(cf:Nat->Nat->Bool)(h1:1<=n)(h2:n<=1000):Square (rowsOfB n cf n) n:=by
 have hrow:∀ y,y<n->((rowsOfB n cf n).getD y []).length=n:=by
  intro y hy
  unfold rowsOfB
  rw [List.getD_eq_getElem?_getD,List.getElem?_map,List.getElem?_range hy]
  simp [rowOfB]
 exact⟨by simp [rowsOfB],hrow 0 (by omega),fun y hy=>by rw [hrow y hy];omega⟩
structure Pats (F v:Nat)(f:Nat->Nat->Bool):Prop where
 fmt:∀ r c:Nat,r<17+4*v->c<17+4*v->∀ b:Nat,fmtP (17+4*(v:Int)) r c=b->f c r=F.testBit b
 ver:7<=v->∀ r t:Nat,r<6->t<3->f (17+4*v-11+t) r=(verTabN.getD (v-7) 0).testBit (r*3+t)
theorem pats_fmt1 (F v:Nat)(hv:1<=v/\v<=40)(f:Nat->Nat->Bool)(h:Pats F v f)(hF:F<32768):nacc (fat1 f) 15=F:=by
 have e:nacc (fat1 f) 15=nacc (fun k=>F.testBit (15-1-k)) 15:=by
  apply nacc_congr
  intro k hk
  unfold fat1
  by_cases h1:k<6
  ·rw [if_pos h1]
   exact h.fmt 8 k (by omega) (by omega) _ (by unfold fmtP;rw [if_neg (by omega),if_neg (by omega),if_neg (by omega),if_neg (by omega),if_pos (by omega)]<;>omega)
  ·rw [if_neg h1]
   by_cases h2:k=6
   ·subst h2
    rw [if_pos rfl]
    exact h.fmt 8 7 (by omega) (by omega) _ (by unfold fmtP;rw [if_neg (by omega),if_neg (by omega),if_neg (by omega),if_pos (by omega)]<;>omega)
   ·rw [if_neg h2]
    by_cases h3:k=7
    ·subst h3
     rw [if_pos rfl]
     exact h.fmt 8 8 (by omega) (by omega) _ (by unfold fmtP;rw [if_neg (by omega),if_neg (by omega),if_pos (by omega)]<;>omega)
    ·rw [if_neg h3]
     by_cases h4:k=8
     ·subst h4
      rw [if_pos rfl]
      exact h.fmt 7 8 (by omega) (by omega) _ (by unfold fmtP;rw [if_neg (by omega),if_pos (by omega)]<;>omega)
     ·rw [if_neg h4]
      exact h.fmt (14-k) 8 (by omega) (by omega) _ (by unfold fmtP;rw [if_pos (by omega)]<;>omega)
 rw [e]
 exact nacc_num F 15 hF
theorem pats_fmt2 (F v:Nat)(hv:1<=v/\v<=40)(f:Nat->Nat->Bool)(h:Pats F v f)(hF:F<32768):nacc (fat2 f (17+4*v)) 15=F:=by
 have e:nacc (fat2 f (17+4*v)) 15=nacc (fun k=>F.testBit (15-1-k)) 15:=by
  apply nacc_congr
  intro k hk
  unfold fat2
  by_cases h1:k<7
  ·rw [if_pos h1]
   exact h.fmt (17+4*v-1-k) 8 (by omega) (by omega) _ (by unfold fmtP;rw [if_neg (by omega),if_neg (by omega),if_neg (by omega),if_neg (by omega),if_neg (by omega),if_neg (by omega),if_pos (by omega)]<;>omega)
  ·rw [if_neg h1]
   exact h.fmt 8 (17+4*v-15+k) (by omega) (by omega) _ (by unfold fmtP;rw [if_neg (by omega),if_neg (by omega),if_neg (by omega),if_neg (by omega),if_neg (by omega),if_pos (by omega)]<;>omega)
 rw [e]
 exact nacc_num F 15 hF
theorem vacc_nacc (f:Nat->Nat->Bool)(n:Nat):∀ k,vacc f n k=nacc (fun k=>f (n-9-k%3) (5-k/3)) k:=by
 intro k
 induction k with
 | zero=>rfl
 | succ k ih=>rw [vacc,nacc,ih]
theorem verTab_lim2 (i:Nat):verTabN.getD i 0<2 ^ 18:=by
 by_cases h:i<34
 ·exact verTab_lim ⟨i,h⟩
 ·rw [List.getD_eq_getElem?_getD,List.getElem?_eq_none (by show 34<=i;omega)]
  decide
theorem pats_ver (F v:Nat)(hv:1<=v/\v<=40)(f:Nat->Nat->Bool)(h:Pats F v f)(h7:7<=v):vacc f (17+4*v) 18=verTabN.getD (v-7) 0:=by
 rw [vacc_nacc]
 have e:nacc (fun k=>f (17+4*v-9-k%3) (5-k/3)) 18=nacc (fun k=>(verTabN.getD (v-7) 0).testBit (18-1-k)) 18:=by
  apply nacc_congr
  intro k hk
  have:=h.ver h7 (5-k/3) (2-k%3) (by omega) (by omega)
  rw [show 17+4*v-11+(2-k%3)=17+4*v-9-k%3 by omega,show (5-k/3)*3+(2-k%3)=18-1-k by omega] at this
  exact this
 rw [e]
 exact nacc_num _ 18 (verTab_lim2 _)
theorem pats_verOK (F v:Nat)(hv:1<=v/\v<=40)(f:Nat->Nat->Bool)(h:Pats F v f):VerOK f v:=by
 intro h7
 rw [pats_ver F v hv f h h7,hd_self]
 omega
theorem vbits_nat:∀ v:Fin 34,vbits (v.val+7)=((verTabN.getD v.val 0:Nat):Int):=by decide +kernel
theorem pats_of_cells (F v:Nat)(hv:1<=v/\v<=40)(hF:F<32768)(cf:Nat->Nat->Bool)(h:∀ r c:Nat,r<17+4*v->c<17+4*v->CellIs (F:Int) v r c (cf r c)):Pats F v (fun x y=>cf y x):=by
 refine⟨?_,?_⟩
 ·intro r c hr hc b hb
  have:=cell_fmt (F:Int) v hv r c _ (h r c hr hc) (by omega) (by omega) (by rw [hb];omega)
  show cf r c=_
  rw [this,hb,bitQ_nat F b (by omega)]
  unfold fmtP at hb
  split at hb
  ·omega
  ·repeat (split at hb<;>first | omega | skip)
 ·intro h7 r t hr ht
  have:=cell_ver (F:Int) v ⟨h7,hv.2⟩ r t hr ht _ (h r (17+4*v-11+t) (by omega) (by omega))
  show cf r _=_
  have hvb:=vbits_nat ⟨v-7,by omega⟩
  simp only [show v-7+7=v by omega] at hvb
  rw [this,hvb,bitQ_nat _ _ (Nat.lt_trans (verTab_lim2 _) (by decide)) (by omega)]
theorem Pats.congr {F v:Nat}{f h:Nat->Nat->Bool}(P:Pats F v f)(e:∀ x y,x<17+4*v->y<17+4*v->f x y=h x y)(hv:1<=v):Pats F v h :=
 ⟨fun r c hr hc b hb=>(e c r hc hr).symm.trans (P.fmt r c hr hc b hb),fun h7 r t hr ht=>(e _ r (by omega) (by omega)).symm.trans (P.ver h7 r t hr ht)⟩
def byteAt (L:List Bool)(i:Nat):Nat:=nacc (fun k=>L.getD (8*i+k) false) 8
def accB (L:List Bool):Nat:=nacc (fun k=>L.getD (8*(L.length/8)+k) false) (L.length%8)
def bytesTo (T:Nat)(L:List Bool):List Nat:=(List.range (L.length/8)).map (byteAt L)++List.replicate (T-L.length/8) 0
theorem getD_snoc_lt (L:List Bool)(b:Bool)(i:Nat)(h:i<L.length):(L++[b]).getD i false=L.getD i false:=by
 rw [List.getD_eq_getElem?_getD,List.getD_eq_getElem?_getD,List.getElem?_append_left h]
theorem getD_snoc_eq (L:List Bool)(b:Bool):(L++[b]).getD L.length false=b:=by
 rw [List.getD_eq_getElem?_getD,List.getElem?_append_right (Nat.le_refl _),Nat.sub_self]
 rfl
theorem byteAt_snoc (L:List Bool)(b:Bool)(i:Nat)(h:i<L.length/8):byteAt (L++[b]) i=byteAt L i:=by
 unfold byteAt
 exact nacc_congr 8 fun k hk=>getD_snoc_lt L b _ (by omega)
theorem accB_lt7 (L:List Bool):accB L<128:=by
 unfold accB
 have h1:=nacc_lt (fun k=>L.getD (8*(L.length/8)+k) false) (L.length%8)
 have h2:2 ^ (L.length%8)<=2 ^ 7:=Nat.pow_le_pow_right (by omega) (by omega)
 omega
theorem acc_full (L:List Bool)(b:Bool)(h:L.length%8=7):2*accB L+b.toNat=byteAt (L++[b]) (L.length/8):=by
 unfold byteAt accB
 rw [h,nacc]
 congr 1
 ·congr 1
  exact nacc_congr 7 fun k hk=>(getD_snoc_lt L b _ (by omega)).symm
 ·show b.toNat=((L++[b]).getD (8*(L.length/8)+7) false).toNat
  rw [show 8*(L.length/8)+7=L.length by omega,getD_snoc_eq]
theorem acc_more (L:List Bool)(b:Bool)(h:L.length%8≠7):accB (L++[b])=2*accB L+b.toNat/\(L++[b]).length/8=L.length/8/\(L++[b]).length%8=L.length%8+1:=by
 have hl:(L++[b]).length=L.length+1:=by simp
 have h1:(L++[b]).length/8=L.length/8:=by omega
 have h2:(L++[b]).length%8=L.length%8+1:=by omega
 refine⟨?_,h1,h2⟩
 unfold accB
 rw [h1,h2,nacc]
 congr 1
 ·congr 1
  exact nacc_congr _ fun k hk=>getD_snoc_lt L b _ (by omega)
 ·show ((L++[b]).getD (8*(L.length/8)+L.length%8) false).toNat=b.toNat
  rw [show 8*(L.length/8)+L.length%8=L.length by omega,getD_snoc_eq]
theorem acc_zero (L:List Bool)(h:L.length%8=0):accB L=0:=by unfold accB;rw [h];rfl
theorem bytesTo_len (T:Nat)(L:List Bool)(h:L.length/8<=T):(bytesTo T L).length=T:=by unfold bytesTo;simp;omega
theorem bytesTo_more (T:Nat)(L:List Bool)(b:Bool)(h:L.length%8≠7):bytesTo T (L++[b])=bytesTo T L:=by
 unfold bytesTo
 rw [(acc_more L b h).2.1]
 congr 1
 apply List.map_congr_left
 intro i hi
 rw [List.mem_range] at hi
 exact byteAt_snoc L b i hi
theorem bytesTo_full (T:Nat)(L:List Bool)(b:Bool)(h:L.length%8=7)(hT:L.length/8<T):(bytesTo T L).set (L.length/8) (2*accB L+b.toNat)=bytesTo T (L++[b]):=by
 have hl:(L++[b]).length=L.length+1:=by simp
 have h1:(L++[b]).length/8=L.length/8+1:=by omega
 unfold bytesTo
 rw [h1,acc_full L b h]
 have hm:((List.range (L.length/8)).map (byteAt L)).length=L.length/8:=by simp
 rw [List.set_append_right _ _ (by omega),hm,Nat.sub_self,show T-L.length/8=(T-(L.length/8+1))+1 by omega,List.replicate_succ,List.set_cons_zero,List.range_succ,List.map_append,List.append_assoc]
 congr 1
 apply List.map_congr_left
 intro i hi
 rw [List.mem_range] at hi
 exact (byteAt_snoc L b i hi).symm
theorem colPair_mono (n:Nat)(g:Nat->Nat->Bool)(rt:Nat)(up:Bool)(c:Nat):∀ d,(colPair n g rt up c).length<=(colPair n g rt up (c+d)).length:=by
 intro d
 induction d with
 | zero=>exact Nat.le_refl _
 | succ d ih=>
  rw [<- Nat.add_assoc,colPair,List.length_append]
  omega
def pairTo (g:Nat->Nat->Bool)(rt r t:Nat):List (Nat×Nat):=([(r,rt),(r,rt-1)].take t).filter fun p=>!g p.2 p.1
theorem pairTo_two (g:Nat->Nat->Bool)(rt r:Nat):pairTo g rt r 2=pairAt g rt r:=rfl
theorem pairTo_step (g:Nat->Nat->Bool)(rt r t:Nat)(h:t<2):pairTo g rt r (t+1)=pairTo g rt r t++(if g (rt-t) r then [] else [(r,rt-t)]):=by
 match t,h with
 | 0,_=>
  show [(r,rt)].filter _=[]++_
  simp only [List.filter_cons,List.filter_nil,List.nil_append,Nat.sub_zero]
  cases g rt r<;>rfl
 | 1,_=>
  show [(r,rt),(r,rt-1)].filter _=[(r,rt)].filter _++_
  simp only [List.filter_cons,List.filter_nil]
  cases g rt r<;>cases g (rt-1) r<;>rfl
theorem pairTo_le (g:Nat->Nat->Bool)(rt r t:Nat)(h:t<=2):(pairTo g rt r t).length<=(pairAt g rt r).length:=by
 match t,h with
 | 0,_=>exact Nat.zero_le _
 | 1,_=>
  rw [<- pairTo_two,pairTo_step g rt r 1 (by omega),List.length_append]
  omega
 | 2,_=>exact Nat.le_refl _
def bitsAt (f:Nat->Nat->Bool)(l:List (Nat×Nat)):List Bool:=l.map fun p=>f p.2 p.1
theorem bitsAt_len (f:Nat->Nat->Bool)(l:List (Nat×Nat)):(bitsAt f l).length=l.length:=by simp [bitsAt]
theorem bitsAt_append (f:Nat->Nat->Bool)(l k:List (Nat×Nat)):bitsAt f (l++k)=bitsAt f l++bitsAt f k:=by simp [bitsAt]
theorem tot_look:∀ v:Fin 40,rowTot (verRow (v.val+1))=((roomN (v.val+1)/8:Nat):Int)/\roomN (v.val+1)<=40000:=by decide +kernel
theorem tot_row (v:Nat)(hv:1<=v/\v<=40):rowTot (verRow v)=((roomN v/8:Nat):Int)/\roomN v<=40000:=by
 have:=tot_look ⟨v-1,by omega⟩
 simp only [show v-1+1=v by omega] at this
 exact this
structure Upd2 (w w':World)(g b:Nat):Prop where
 os:w'.os=w.os
 tape:w'.tape=w.tape
 output:w'.output=w.output
 size:w.heap.size<=w'.heap.size
 block:∀ k,k<w.heap.size->k≠g->k≠b->w'.heap[k]? = w.heap[k]?
theorem Upd2.of {w w':World}{g:Nat}(h:Upd w w' g)(b:Nat):Upd2 w w' g b:=⟨h.os,h.tape,h.output,h.size,fun k hk h1 _=>h.block k hk h1⟩
theorem Upd2.of' {w w':World}{b:Nat}(h:Upd w w' b)(g:Nat):Upd2 w w' g b:=⟨h.os,h.tape,h.output,h.size,fun k hk _ h2=>h.block k hk h2⟩
theorem Upd2.trans {x y z:World}{g b:Nat}(h:Upd2 x y g b)(k:Upd2 y z g b):Upd2 x z g b :=
 ⟨k.os.trans h.os,k.tape.trans h.tape,k.output.trans h.output,Nat.le_trans h.size k.size,fun i hi h1 h2=>(k.block i (Nat.lt_of_lt_of_le hi h.size) h1 h2).trans (h.block i hi h1 h2)⟩
theorem Upd2.blk {w w':World}{g b q:Nat}{t:TypeId}{cs:Array Value}(h:Upd2 w w' g b)(hq:Blk w q t cs)(h1:q≠g)(h2:q≠b):Blk w' q t cs:=(h.block q hq.lt h1 h2).trans hq
theorem Upd2.below {w0 w w':World}{g b B:Nat}(h:Upd2 w w' g b)(hb:Below B w0 w)(hg:B<=g)(hb2:B<=b)(hB:B<=w.heap.size):Below B w0 w' :=
 ⟨h.os.trans hb.os,h.tape.trans hb.tape,h.output.trans hb.output,Nat.le_trans hb.size h.size,fun k hk=>(h.block k (by omega) (by omega) (by omega)).trans (hb.block k hk)⟩
theorem VerAt.upd2 {w w':World}{p b pv:Nat}{n:Int}{v:VerRow}{cs cs2:Array Value}(h:VerAt w pv n v)(hu:Upd2 w w' p b)(hp:Blk w p 144 cs)(hb:Blk w b 214 cs2):VerAt w' pv n v:=by
 obtain⟨gc,ge,g,h1,h2,h3,h4⟩:=h
 exact⟨gc,ge,g,hu.blk h1 (blk_ne h1 hp (by decide)) (blk_ne h1 hb (by decide)),hu.blk h2 (blk_ne h2 hp (by decide)) (blk_ne h2 hb (by decide)),hu.blk h3 (blk_ne h3 hp (by decide)) (blk_ne h3 hb (by decide)),
  fun l hl=>hu.blk (h4 l hl) (blk_ne (h4 l hl) hp (by decide)) (blk_ne (h4 l hl) hb (by decide))⟩
def UBlk (w:World)(g:Nat)(xs:List Nat):Prop:=Blk w g 5 (nums .u8 (ints xs)).toArray
theorem UBlk.cell {w:World}{g:Nat}{xs:List Nat}(h:UBlk w g xs)(i:Nat)(hi:i<xs.length):w.cell? ⟨g,i,none⟩=some (.int .u8 ((xs.getD i 0:Nat):Int)):=by
 have:=Blk.ucell h (i:Int) (by omega) (by rw [ints_len];omega)
 rw [Int.toNat_natCast] at this
 rw [this,<- ints_get]
 unfold rd
 rw [Int.toNat_natCast]
theorem UBlk.set {w:World}{g:Nat}{xs:List Nat}(h:UBlk w g xs)(i v:Nat):UBlk (w.setCell ⟨g,i,none⟩ (.int .u8 (v:Int))) g (xs.set i v):=by
 have:=Blk.uset h i (v:Int)
 unfold UBlk
 rw [show ints (xs.set i v)=(ints xs).set i (v:Int) from by simp [ints,List.map_set]]
 exact this
theorem info5u:(Tryz.prog.info? 5).map (fun i=>(i.zero,i.size,i.bytes))=some (some (.int .u8 0),1,1):=by kernel_rfl
theorem make_u8 (n:Nat)(h:n<=1000000000)(w:World):(Instr.makeSlice 26 (.int .i64 (n:Int)) (.int .i64 (n:Int))).run Tryz.prog w=.ok (.slice (some ⟨w.heap.size,0,none⟩) n n) (w.alloc (.cells (nums .u8 (ints (List.replicate n 0))).toArray 5)):=by
 obtain⟨i,hi,hz,hs,hb⟩:=info_parts info5u
 have:=run_make_rowN (P:=Tryz.prog) 26 5 i (.int .u8 0) Tryz.underlying26 hi hz .i64 .i64 n n (Nat.le_refl _) (by rw [hb];omega) (by omega) w
 have e:madeCells (Value.int .u8 0).cells (n*1)=(nums .u8 (ints (List.replicate n 0))).toArray:=by
  apply Array.toList_inj.1
  rw [Nat.mul_one]
  exact (toList_madeCells_one _ _).trans (by simp [nums,ints])
 rw [this,hs,e]
theorem verTotal (w:World)(pv n T:Nat)(v:VerRow)(h:VerAt w pv (n:Int) v)(hT:rowTot v=(T:Int)):Calls Tryz.prog 93 #[.pointer (some ⟨pv,0,none⟩)] w fun e w'=>e=.returned (.int .i64 (T:Int))/\w=w':=by
 obtain⟨gc,ge,g,h1,_⟩:=h
 rw [hT] at h1
 have c3:w.cell? ⟨pv,3,none⟩=some (.int .i64 (T:Int)):=h1.cell 3
 clear h1 hT
 go_enter Tryz.func93,Tryz.ntmps93
 go_wp2
 go_ret
 exact⟨rfl,rfl⟩
def lvIx (l:Nat):Nat:=if l=0 then 1 else if l=1 then 0 else if l=2 then 3 else 2
def lvOf (v l:Nat):Int×List (Int×Int):=(verRow v).2.getD (lvIx l) (0,[])
def lvE (v l:Nat):Nat:=(lvOf v l).1.toNat
def lvC (v l:Nat):Nat:=((lvOf v l).2.getD 0 (0,0)).1.toNat
def lvD (v l:Nat):Nat:=((lvOf v l).2.getD 0 (0,0)).2.toNat
def lvC2 (v l:Nat):Nat:=((lvOf v l).2.getD 1 (0,0)).1.toNat
structure Lay (v l e c d c2:Nat):Prop where
 row:lvOf v l=((e:Int),if c2=0 then [((c:Int),(d:Int))] else [((c:Int),(d:Int)),((c2:Int),((d+1:Nat):Int))])
 e1:1<=e
 e2:e<=100
 c1:1<=c
 cc:c+c2<=100
 d1:1<=d
 d2:d<=200
 tot:d*(c+c2)+c2+e*(c+c2)=roomN v/8
theorem lay_look:∀ v:Fin 40,∀ l:Fin 4,(lvOf (v.val+1) l.val=((lvE (v.val+1) l.val:Int),if lvC2 (v.val+1) l.val=0 then [((lvC (v.val+1) l.val:Int),(lvD (v.val+1) l.val:Int))] else [((lvC (v.val+1) l.val:Int),(lvD (v.val+1) l.val:Int)),((lvC2 (v.val+1) l.val:Int),((lvD (v.val+1) l.val+1:Nat):Int))]))/\
  1<=lvE (v.val+1) l.val/\lvE (v.val+1) l.val<=100/\1<=lvC (v.val+1) l.val/\lvC (v.val+1) l.val+lvC2 (v.val+1) l.val<=100/\1<=lvD (v.val+1) l.val/\lvD (v.val+1) l.val<=200/\
  ((lvD (v.val+1) l.val*(lvC (v.val+1) l.val+lvC2 (v.val+1) l.val)+lvC2 (v.val+1) l.val+lvE (v.val+1) l.val*(lvC (v.val+1) l.val+lvC2 (v.val+1) l.val):Nat):Int)=rowTot (verRow (v.val+1)):=by decide +kernel
theorem lay_at (v l:Nat)(hv:1<=v/\v<=40)(hl:l<4):Lay v l (lvE v l) (lvC v l) (lvD v l) (lvC2 v l):=by
 have h:=lay_look ⟨v-1,by omega⟩ ⟨l,hl⟩
 simp only [show v-1+1=v by omega] at h
 obtain⟨h1,h2,h3,h4,h5,h6,h7,h8⟩:=h
 refine⟨h1,h2,h3,h4,h5,h6,h7,?_⟩
 have:=(tot_row v hv).1
 rw [this] at h8
 exact Int.ofNat.inj h8
section
variable (c d c2 e:Nat)
def dl (j:Nat):Nat:=if j<c then d else d+1
def posOf (j x:Nat):Nat:=if x<d then x*(c+c2)+j else if x<dl c d j then d*(c+c2)+(j-c) else d*(c+c2)+c2+(x-dl c d j)*(c+c2)+j
def fill (ws:List Nat)(off j:Nat):List Nat:=(List.range (dl c d j+e)).map fun x=>if posOf c d c2 j x<off then ws.getD (posOf c d c2 j x) 0 else 0
end
theorem mulAdd_inj {n X Y i j:Nat}(hi:i<n)(hj:j<n)(h:X*n+i=Y*n+j):X=Y/\i=j:=by
 have h1:=congrArg (·/n) h
 have h2:=congrArg (·%n) h
 rw [Nat.add_comm (X*n),Nat.add_comm (Y*n),Nat.add_mul_div_right _ _ (by omega),Nat.add_mul_div_right _ _ (by omega),Nat.div_eq_of_lt hi,Nat.div_eq_of_lt hj] at h1
 rw [Nat.add_comm (X*n),Nat.add_comm (Y*n),Nat.add_mul_mod_self_right,Nat.add_mul_mod_self_right,Nat.mod_eq_of_lt hi,Nat.mod_eq_of_lt hj] at h2
 omega
theorem mulAdd_lt {n X d i:Nat}(hi:i<n)(h:X<d):X*n+i<d*n:=by
 have:=Nat.mul_le_mul_right n (show X+1<=d by omega)
 rw [Nat.add_mul,Nat.one_mul] at this
 omega
theorem posOf_lt {c d c2 e j x:Nat}(hj:j<c+c2)(hx:x<dl c d j+e):posOf c d c2 j x<d*(c+c2)+c2+e*(c+c2):=by
 unfold posOf
 split
 ·rename_i h
  have:=mulAdd_lt hj h
  omega
 ·split
  ·rename_i h1 h2
   have:j-c<c2:=by
    unfold dl at h2
    split at h2<;>omega
   omega
  ·rename_i h1 h2
   have:=mulAdd_lt hj (show x-dl c d j<e by omega)
   omega
theorem posOf_inj {c d c2 j x j' x':Nat}(hj:j<c+c2)(hj':j'<c+c2)(h:posOf c d c2 j x=posOf c d c2 j' x'):j=j'/\x=x':=by
 have k1:x<d->x*(c+c2)+j<d*(c+c2):=fun hx=>mulAdd_lt hj hx
 have k2:x'<d->x'*(c+c2)+j'<d*(c+c2):=fun hx=>mulAdd_lt hj' hx
 have t1:¬ x<d->x<dl c d j->c<=j/\x=d:=by
  intro a b
  unfold dl at b
  split at b<;>omega
 have t2:¬ x'<d->x'<dl c d j'->c<=j'/\x'=d:=by
  intro a b
  unfold dl at b
  split at b<;>omega
 unfold posOf at h
 by_cases a1:x<d
 ·rw [if_pos a1] at h
  by_cases b1:x'<d
  ·rw [if_pos b1] at h
   have:=mulAdd_inj hj hj' h
   omega
  ·rw [if_neg b1] at h
   have:=k1 a1
   by_cases b2:x'<dl c d j'
   ·rw [if_pos b2] at h;omega
   ·rw [if_neg b2] at h;omega
 ·rw [if_neg a1] at h
  by_cases a2:x<dl c d j
  ·rw [if_pos a2] at h
   have u1:=t1 a1 a2
   by_cases b1:x'<d
   ·rw [if_pos b1] at h
    have:=k2 b1
    omega
   ·rw [if_neg b1] at h
    by_cases b2:x'<dl c d j'
    ·rw [if_pos b2] at h
     have u2:=t2 b1 b2
     omega
    ·rw [if_neg b2] at h;omega
  ·rw [if_neg a2] at h
   by_cases b1:x'<d
   ·rw [if_pos b1] at h
    have:=k2 b1
    omega
   ·rw [if_neg b1] at h
    by_cases b2:x'<dl c d j'
    ·rw [if_pos b2] at h
     have u2:=t2 b1 b2
     omega
    ·rw [if_neg b2] at h
     have:=mulAdd_inj hj hj' (show (x-dl c d j)*(c+c2)+j=(x'-dl c d j')*(c+c2)+j' by omega)
     obtain⟨r1,r2⟩:=this
     subst r2
     exact⟨rfl,by omega⟩
theorem fill_len (c d c2 e:Nat)(ws:List Nat)(off j:Nat):(fill c d c2 e ws off j).length=dl c d j+e:=by simp [fill]
theorem fill_zero (c d c2 e:Nat)(ws:List Nat)(j:Nat):fill c d c2 e ws 0 j=List.replicate (dl c d j+e) 0:=by
 unfold fill
 apply List.ext_getElem
 ·simp
 ·intro i h1 h2
  simp
theorem fill_set {c d c2 e:Nat}(ws:List Nat){off j x:Nat}(hj:j<c+c2)(hx:posOf c d c2 j x=off):fill c d c2 e ws (off+1) j=(fill c d c2 e ws off j).set x (ws.getD off 0):=by
 unfold fill
 apply List.ext_getElem
 ·simp
 ·intro i h1 h2
  rw [List.getElem_set]
  simp only [List.getElem_map,List.getElem_range]
  by_cases hxi:x=i
  ·subst hxi
   rw [if_pos rfl,hx,if_pos (by omega)]
  ·rw [if_neg hxi]
   have hne:posOf c d c2 j i≠off:=fun hc=>hxi (posOf_inj hj hj (hx.trans hc.symm)).2
   by_cases hlt:posOf c d c2 j i<off
   ·rw [if_pos hlt,if_pos (by omega)]
   ·rw [if_neg hlt,if_neg (by omega)]
theorem fill_other {c d c2 e:Nat}(ws:List Nat){off j x j':Nat}(hj:j<c+c2)(hj':j'<c+c2)(hx:posOf c d c2 j x=off)(hne:j'≠j):fill c d c2 e ws (off+1) j'=fill c d c2 e ws off j':=by
 unfold fill
 apply List.map_congr_left
 intro i hi
 have hne:posOf c d c2 j' i≠off:=fun hc=>hne (posOf_inj hj' hj (hc.trans hx.symm)).1
 by_cases hlt:posOf c d c2 j' i<off
 ·rw [if_pos hlt,if_pos (by omega)]
 ·rw [if_neg hlt,if_neg (by omega)]
def blockWords (c d c2 e:Nat)(ws:List Nat)(j:Nat):List Nat:=(List.range (dl c d j+e)).map fun x=>ws.getD (posOf c d c2 j x) 0
theorem fill_all {c d c2 e:Nat}(ws:List Nat){j:Nat}(hj:j<c+c2):fill c d c2 e ws (d*(c+c2)+c2+e*(c+c2)) j=blockWords c d c2 e ws j:=by
 unfold fill blockWords
 apply List.map_congr_left
 intro x hx
 rw [if_pos (posOf_lt hj (List.mem_range.1 hx))]
theorem ecbs_perO (w:World)(g o:Nat)(ec:Int)(h:w.cell? ⟨g,o,none⟩=some (.int .i64 ec)):Calls Tryz.prog 158 #[.pointer (some ⟨g,o,none⟩)] w fun e w'=>e=.returned (.int .i64 ec)/\w=w':=by
 go_enter Tryz.func158,Tryz.ntmps158
 go_wp2
 go_ret
 exact⟨rfl,rfl⟩
theorem ecbs_listO (w:World)(g o:Nat)(v:Value)(h:w.cell? ⟨g,o+1,none⟩=some v):Calls Tryz.prog 159 #[.pointer (some ⟨g,o,none⟩)] w fun e w'=>e=.returned v/\w=w':=by
 go_enter Tryz.func159,Tryz.ntmps159
 go_wp2
 go_ret
 exact⟨rfl,rfl⟩
def LevAt (w:World)(a o:Nat)(r:Int×List (Int×Int)):Prop:=∃ g,(∃ es,Blk w a 224 es/\es[o]? = some (.int .i64 r.1)/\es[o+1]? = some (.slice (some ⟨g,0,none⟩) r.2.length r.2.length))/\Blk w g 221 (ecbCells r.2).toArray
theorem LevAt.below {w w':World}{a o B:Nat}{r:Int×List (Int×Int)}(h:LevAt w a o r)(hb:Below B w w')(hB:w.heap.size<=B):LevAt w' a o r:=by
 obtain⟨g,⟨es,h1,h2,h3⟩,h4⟩:=h
 exact⟨g,⟨es,h1.below hb (by have:=h1.lt;omega),h2,h3⟩,h4.below hb (by have:=h4.lt;omega)⟩
theorem esCells_at (v:VerRow)(g:Nat->Nat)(h:v.2.length=4)(k:Nat)(hk:k<4):(esCells v g)[2*k]? = some (.int .i64 (v.2.getD k (0,[])).1)/\(esCells v g)[2*k+1]? = some (.slice (some ⟨g k,0,none⟩) (v.2.getD k (0,[])).2.length (v.2.getD k (0,[])).2.length):=by
 obtain⟨cs,bs⟩:=v
 obtain⟨b0,b1,b2,b3,rfl⟩:∃ b0 b1 b2 b3,bs=[b0,b1,b2,b3]:=by
  match bs,h with
  | [b0,b1,b2,b3],_=>exact⟨b0,b1,b2,b3,rfl⟩
 match k,hk with
 | 0,_=>exact⟨rfl,rfl⟩
 | 1,_=>exact⟨rfl,rfl⟩
 | 2,_=>exact⟨rfl,rfl⟩
 | 3,_=>exact⟨rfl,rfl⟩
theorem verRow_ok (v:Nat)(hv:1<=v/\v<=40):RowOK (verRow v):=by
 refine rows_ok _ ?_
 unfold verRow
 have hl:verTab.length=40:=by kernel_rfl
 rw [List.getD_eq_getElem?_getD,List.getElem?_eq_getElem (show v-1<verTab.length by omega)]
 exact List.getElem_mem _
theorem ecLevel (w:World)(pv v l:Nat)(h:VerAt w pv (v:Int) (verRow v))(hv:1<=v/\v<=40)(hl:l<4) :
  Calls Tryz.prog 170 #[.pointer (some ⟨pv,0,none⟩),.int .i64 (l:Int)] w fun e w'=>(∃ a o,e=.returned (.pointer (some ⟨a,o,none⟩))/\LevAt w a o (lvOf v l))/\w=w':=by
 obtain⟨gc,ge,g,h1,h2,h3,h4⟩:=h
 have hok:=verRow_ok v hv
 have c2:w.cell? ⟨pv,2,none⟩=some (.slice (some ⟨ge,0,none⟩) 4 4):=h1.cell 2
 have lev:∀ k,k<4->LevAt w ge (2*k) ((verRow v).2.getD k (0,[])):=fun k hk=>by
  obtain⟨e1,e2⟩:=esCells_at (verRow v) g hok.four k hk
  exact⟨g k,⟨_,h3,e1,e2⟩,h4 k hk⟩
 have LEV:=Aside0.mk lev
 clear h1 h2 h3 h4 hok lev hv
 go_enter Tryz.func170,Tryz.ntmps170
 match l,hl with
 | 0,_=>
  go_wp2
  go_ret
  exact⟨⟨ge,_,rfl,LEV.out 1 (by decide)⟩,rfl⟩
 | 1,_=>
  go_wp2
  go_ret
  exact⟨⟨ge,_,rfl,LEV.out 0 (by decide)⟩,rfl⟩
 | 2,_=>
  go_wp2
  go_ret
  exact⟨⟨ge,_,rfl,LEV.out 3 (by decide)⟩,rfl⟩
 | 3,_=>
  go_wp2
  go_ret
  exact⟨⟨ge,_,rfl,LEV.out 2 (by decide)⟩,rfl⟩
theorem newDB (w:World)(d:Int)(g n:Nat):Calls Tryz.prog 171 #[.int .i64 d,.slice (some ⟨g,0,none⟩) n n] w fun e w'=>e=.returned (.pointer (some ⟨w.heap.size,0,none⟩))/\w'=w.alloc (.cells #[.int .i64 d,.slice (some ⟨g,0,none⟩) n n] 270):=by
 go_enter Tryz.func171,Tryz.ntmps171
 go_wp2
 go_ret
 exact⟨rfl,rfl⟩
theorem dbNum (w:World)(p:Nat)(d:Int)(v:Value)(h:Blk w p 270 #[.int .i64 d,v]):Calls Tryz.prog 163 #[.pointer (some ⟨p,0,none⟩)] w fun e w'=>e=.returned (.int .i64 d)/\w=w':=by
 have c0:w.cell? ⟨p,0,none⟩=some (.int .i64 d):=h.cell 0
 clear h
 go_enter Tryz.func163,Tryz.ntmps163
 go_wp2
 go_ret
 exact⟨rfl,rfl⟩
theorem dbWords (w:World)(p:Nat)(d v:Value)(h:Blk w p 270 #[d,v]):Calls Tryz.prog 164 #[.pointer (some ⟨p,0,none⟩)] w fun e w'=>e=.returned v/\w=w':=by
 have c0:w.cell? ⟨p,1,none⟩=some v:=h.cell 1
 clear h
 go_enter Tryz.func164,Tryz.ntmps164
 go_wp2
 go_ret
 exact⟨rfl,rfl⟩
def ptrAt (k:Nat)(p:Nat->Nat)(i:Nat):Value:=if i<k then .pointer (some ⟨p i,0,none⟩) else .pointer none
def ptrRow (k n:Nat)(p:Nat->Nat):List Value:=(List.range n).map (ptrAt k p)
theorem info257p:(Tryz.prog.info? 257).map (fun i=>(i.zero,i.size,i.bytes))=some (some (.pointer none),1,8):=by kernel_rfl
theorem make_blocks (n:Nat)(h:n<=100000000)(w:World):(Instr.makeSlice 254 (.int .i64 (n:Int)) (.int .i64 (n:Int))).run Tryz.prog w=.ok (.slice (some ⟨w.heap.size,0,none⟩) n n) (w.alloc (.cells (ptrRow 0 n (fun _=>0)).toArray 257)):=by
 obtain⟨i,hi,hz,hs,hb⟩:=info_parts info257p
 have:=run_make_rowN (P:=Tryz.prog) 254 257 i (.pointer none) Tryz.underlying254 hi hz .i64 .i64 n n (Nat.le_refl _) (by rw [hb];omega) (by omega) w
 have e:madeCells (Value.pointer none).cells (n*1)=(ptrRow 0 n (fun _=>0)).toArray:=by
  apply Array.toList_inj.1
  rw [Nat.mul_one]
  refine (toList_madeCells_one _ _).trans ?_
  unfold ptrRow
  apply List.ext_getElem
  ·simp
  ·intro i h1 h2
   simp [ptrAt]
 rw [this,hs,e]
structure Dbs (w:World)(g B k n:Nat)(p q d:Nat->Nat)(cw:Nat->List Nat):Prop where
 row:Blk w g 257 (ptrRow k n p).toArray
 blk:∀ i,i<k->Blk w (p i) 270 #[.int .i64 (d i:Int),.slice (some ⟨q i,0,none⟩) (cw i).length (cw i).length]
 word:∀ i,i<k->UBlk w (q i) (cw i)
 fresh:∀ i,i<k->B<=q i
 inj:∀ i j,i<k->j<k->q i=q j->i=j
theorem Dbs.below {w w':World}{g B k n C:Nat}{p q d:Nat->Nat}{cw:Nat->List Nat}(h:Dbs w g B k n p q d cw)(hb:Below C w w')(hC:w.heap.size<=C):Dbs w' g B k n p q d cw :=
 ⟨h.row.below hb (by have:=h.row.lt;omega),fun i hi=>(h.blk i hi).below hb (by have:=(h.blk i hi).lt;omega),fun i hi=>Blk.below (h.word i hi) hb (by have:=Blk.lt (h.word i hi);omega),h.fresh,h.inj⟩
def upd1 (p:Nat->Nat)(k x:Nat)(i:Nat):Nat:=if i=k then x else p i
theorem ptrRow_set (k n x:Nat)(p:Nat->Nat)(hk:k<n):(ptrRow k n p).set k (.pointer (some ⟨x,0,none⟩))=ptrRow (k+1) n (upd1 p k x):=by
 unfold ptrRow
 apply List.ext_getElem
 ·simp
 ·intro i h1 h2
  rw [List.getElem_set]
  simp only [List.getElem_map,List.getElem_range]
  unfold ptrAt upd1
  by_cases hi:k=i
  ·subst hi
   rw [if_pos rfl,if_pos (by omega),if_pos rfl]
  ·rw [if_neg hi]
   by_cases hlt:i<k
   ·rw [if_pos hlt,if_pos (by omega),if_neg (by omega)]
   ·rw [if_neg hlt,if_neg (by omega)]
theorem Dbs.add {w:World}{g B k n:Nat}{p q d:Nat->Nat}{cw:Nat->List Nat}(h:Dbs w g B k n p q d cw)(hk:k<n)(hB:B<=w.heap.size) :
  Dbs (((w.alloc (.cells (nums .u8 (ints (cw k))).toArray 5)).alloc (.cells #[.int .i64 (d k:Int),.slice (some ⟨w.heap.size,0,none⟩) (cw k).length (cw k).length] 270)).setCell ⟨g,k,none⟩ (.pointer (some ⟨w.heap.size+1,0,none⟩))) g B (k+1) n (upd1 p k (w.heap.size+1)) (upd1 q k w.heap.size) d cw:=by
 obtain⟨w1,hw1⟩:∃ w1,w1=w.alloc (.cells (nums .u8 (ints (cw k))).toArray 5):=⟨_,rfl⟩
 obtain⟨w2,hw2⟩:∃ w2,w2=w1.alloc (.cells #[.int .i64 (d k:Int),.slice (some ⟨w.heap.size,0,none⟩) (cw k).length (cw k).length] 270):=⟨_,rfl⟩
 rw [<- hw1,<- hw2]
 have hb1:Below w.heap.size w w1:=by rw [hw1];exact below_alloc (Below.refl _ _) _
 have hs1:w1.heap.size=w.heap.size+1:=by rw [hw1];simp
 have hb2:Below w.heap.size w w2:=by rw [hw2];exact below_alloc hb1 _
 have n1:UBlk w1 w.heap.size (cw k):=by rw [hw1];exact Blk.new _ _ _
 have n1':UBlk w2 w.heap.size (cw k):=by rw [hw2];exact Blk.alloc n1 _
 have n2:Blk w2 (w.heap.size+1) 270 #[.int .i64 (d k:Int),.slice (some ⟨w.heap.size,0,none⟩) (cw k).length (cw k).length]:=by rw [hw2,<- hs1];exact Blk.new _ _ _
 have h2:=h.below hb2 (Nat.le_refl _)
 have hgl:=h.row.lt
 refine⟨?_,fun i hi=>?_,fun i hi=>?_,fun i hi=>?_,fun i j hi hj he=>?_⟩
 ·rw [<- ptrRow_set k n _ p hk]
  have:=blk_set h2.row k (.pointer (some ⟨w.heap.size+1,0,none⟩))
  unfold Blk
  rw [this]
  simp
 ·unfold upd1
  by_cases hik:i=k
  ·subst hik
   rw [if_pos rfl,if_pos rfl]
   exact n2.far (p:=⟨g,i,none⟩) (show w.heap.size+1≠g by omega) _
  ·rw [if_neg hik,if_neg hik]
   have e:=blk_ne (h2.blk i (by omega)) h2.row (by decide)
   exact (h2.blk i (by omega)).far (p:=⟨g,k,none⟩) e _
 ·unfold upd1
  by_cases hik:i=k
  ·subst hik
   rw [if_pos rfl]
   exact Blk.far (p:=⟨g,i,none⟩) n1' (show w.heap.size≠g by omega) _
  ·rw [if_neg hik]
   have e:=blk_ne (h2.word i (by omega)) h2.row (by decide)
   exact Blk.far (p:=⟨g,k,none⟩) (h2.word i (by omega)) e _
 ·unfold upd1
  split
  ·exact hB
  ·exact h.fresh i (by omega)
 ·unfold upd1 at he
  have lt:∀ x,x<k->q x<w.heap.size:=fun x hx=>Blk.lt (h.word x hx)
  by_cases hik:i=k
  ·by_cases hjk:j=k
   ·omega
   ·rw [if_pos hik,if_neg hjk] at he
    have:=lt j (by omega)
    omega
  ·by_cases hjk:j=k
   ·rw [if_neg hik,if_pos hjk] at he
    have:=lt i (by omega)
    omega
   ·rw [if_neg hik,if_neg hjk] at he
    exact h.inj i j (by omega) (by omega) he
theorem Dbs.set {w:World}{g B n:Nat}{p q d:Nat->Nat}{cw cw':Nat->List Nat}(h:Dbs w g B n n p q d cw){j x v:Nat}(hj:j<n)(h1:cw' j=(cw j).set x v)(h2:∀ i,i<n->i≠j->cw' i=cw i) :
  Dbs (w.setCell ⟨q j,x,none⟩ (.int .u8 (v:Int))) g B n n p q d cw':=by
 have hl:∀ i,i<n->(cw' i).length=(cw i).length:=fun i hi=>by
  by_cases hij:i=j
  ·rw [hij,h1,List.length_set]
  ·rw [h2 i hi hij]
 have hw:=h.word j hj
 have eg:=blk_ne h.row hw (by decide)
 refine⟨h.row.far (p:=⟨q j,x,none⟩) eg _,fun i hi=>?_,fun i hi=>?_,h.fresh,h.inj⟩
 ·rw [hl i hi]
  have e:=blk_ne (h.blk i hi) hw (by decide)
  exact (h.blk i hi).far (p:=⟨q j,x,none⟩) e _
 ·by_cases hij:i=j
  ·subst hij
   rw [h1]
   exact hw.set x v
  ·rw [h2 i hi hij]
   exact Blk.far (p:=⟨q j,x,none⟩) (h.word i hi) (fun hc=>hij (h.inj i j hi hj hc)) _
theorem Dbs.ptr {w:World}{g B k n:Nat}{p q d:Nat->Nat}{cw:Nat->List Nat}(h:Dbs w g B k n p q d cw){i:Nat}(hi:i<k)(hn:i<n):w.cell? ⟨g,i,none⟩=some (.pointer (some ⟨p i,0,none⟩)):=by
 rw [h.row.cell i]
 simp [ptrRow,hn,ptrAt,hi]
theorem held {T G:Prop}(r:T->G)(h:T):G:=r h
theorem VerAt.upd_any {w w':World}{b pv:Nat}{n:Int}{v:VerRow}{t:TypeId}{cs:Array Value}(h:VerAt w pv n v)(hu:Upd w w' b)(hb:Blk w b t cs)(h1:154≠t)(h2:3≠t)(h3:224≠t)(h4:221≠t):VerAt w' pv n v:=by
 obtain⟨gc,ge,g,k1,k2,k3,k4⟩:=h
 exact⟨gc,ge,g,hu.blk k1 (blk_ne k1 hb h1),hu.blk k2 (blk_ne k2 hb h2),hu.blk k3 (blk_ne k3 hb h3),fun l hl=>hu.blk (k4 l hl) (blk_ne (k4 l hl) hb h4)⟩
theorem Grid.words {w:World}{g b wd ht:Nat}{f:Nat->Nat->Bool}(G:Grid w g b wd ht f):∃ cs,Blk w b 214 cs:=by
 obtain⟨xs,h1,h2,h3⟩:=G
 exact⟨_,h2⟩
theorem Parser.upd {w w':World}{p g v b:Nat}{fm:Value}{cs:Array Value}(h:Parser w p g v fm)(hu:Upd w w' b)(hb:Blk w b 214 cs):Parser w' p g v fm:=by
 obtain⟨x1,h1,h2⟩:=h
 refine⟨x1,hu.blk h1 (blk_ne h1 hb (by decide)),?_⟩
 rcases h2 with h | ⟨pv,h,hV⟩
 ·exact .inl h
 ·exact .inr ⟨pv,h,hV.upd_any hu hb (by decide) (by decide) (by decide) (by decide)⟩
theorem Parser.below {w w':World}{p g v B:Nat}{fm:Value}(h:Parser w p g v fm)(hb:Below B w w')(hB:w.heap.size<=B):Parser w' p g v fm:=by
 obtain⟨x1,h1,h2⟩:=h
 refine⟨x1,h1.below hb (by have:=h1.lt;omega),?_⟩
 rcases h2 with h | ⟨pv,h,hV⟩
 ·exact .inl h
 ·exact .inr ⟨pv,h,hV.below hb hB⟩
def wayBits (v m:Nat)(f:Nat->Nat->Bool):List Bool:=bitsAt (fun x y=>f x y != maskB m x y) (way (17+4*v) (fpB v (ctrs v)))
def wordsOf (v m:Nat)(f:Nat->Nat->Bool):List Nat:=(List.range (roomN v/8)).map (byteAt (wayBits v m f))
def CodeWords (w:World)(p g b v q d:Nat)(f:Nat->Nat->Bool)(e:Ending)(w':World):Prop:=∃ gr,e=.returned (.tuple #[.slice (some ⟨gr,0,none⟩) (roomN v/8) (roomN v/8),.nilIface])/\w.heap.size<=gr/\UBlk w' gr (wordsOf v (d%8) f)/\
 Grid w' g b (17+4*v) (17+4*v) (fun x y=>f x y != maskB (d%8) x y)/\Upd2 w w' p b
set_option maxHeartbeats 8000000 in
theorem readCodewords (w:World)(p g b v q d:Nat)(f:Nat->Nat->Bool)(hP:Parser w p g v (.pointer (some ⟨q,0,none⟩)))(hF:FmtAt w q d)(G:Grid w g b (17+4*v) (17+4*v) f)(hv:1<=v/\v<=40)(hok:VerOK f v)(hgp:g≠p)(hbp:b≠p) :
  Calls Tryz.prog 45 #[.pointer (some ⟨p,0,none⟩)] w (CodeWords w p g b v q d f):=by
 obtain⟨hT,hR⟩:=tot_row v hv
 obtain⟨n,hn⟩:∃ n,17+4*v=n:=⟨_,rfl⟩
 obtain⟨T,hTd⟩:∃ T,roomN v/8=T:=⟨_,rfl⟩
 rw [hTd] at hT
 have hTl:T<=5000:=by omega
 have HG:=Aside0.mk G
 have HP:=Aside0.mk hP
 have HF:=Aside0.mk hF
 have HV:=Aside0.mk hv
 have HOK:=Aside0.mk hok
 have HT:=Aside0.mk hT
 have HTD:=Aside0.mk hTd
 have HN:=Aside0.mk hn
 have HR:=Aside0.mk hR
 have hn1:21<=n:=by omega
 have hn2:n<=177:=by omega
 have hmul:n*1=n:=Nat.mul_one n
 clear G hP hF hok hT hTd hn hR hv hmul
 go_enter Tryz.func45,Tryz.ntmps45
 go_wp2_with fail
 refine (readFormat_again w p g v q d HP.out HF.out).mono ?_
 rintro e w1 ⟨q1,rfl,hF1,hP1,hu1⟩
 have HF1:=Aside0.mk hF1
 have HP1:=Aside0.mk hP1
 have HU1:=Aside0.mk hu1
 have HG1:=Aside0.mk (hu1.grid HG.out hgp hbp)
 clear hF1 hP1 hu1
 go_wp2_with fail
 refine (readVersion w1 p g b v (.pointer (some ⟨q1,0,none⟩)) f HP1.out HG1.out HV.out HOK.out).mono ?_
 rintro e w2 ⟨pv,rfl,hV2,hP2,hu2⟩
 have HV2:=Aside0.mk hV2
 have HP2:=Aside0.mk hP2
 have HU2:=Aside0.mk (HU1.out.trans hu2)
 have HG2:=Aside0.mk (hu2.grid HG1.out hgp hbp)
 have HF2:=Aside0.mk (show FmtAt w2 q1 d by obtain⟨x1,hb1,_⟩:=HP1.out;exact hu2.blk HF1.out (blk_ne HF1.out hb1 (by decide)))
 clear hV2 hP2 hu2
 go_wp2_with fail
 refine (maskValues w2).mono ?_
 rintro e w3 ⟨rfl,hw3⟩
 have hb3:Below w2.heap.size w2 w3:=by rw [hw3];exact below_alloc (Below.refl _ _) _
 have HM3:=Aside0.mk (show Blk w3 w2.heap.size 159 maskCells by rw [hw3];exact Blk.new _ _ _)
 have HB3:=Aside0.mk hb3
 clear hw3 hb3
 go_wp2_with fail
 have hF3:FmtAt w3 q1 d:=HF2.out.below HB3.out (Blk.lt HF2.out)
 have km:=fmtMask w3 q1 d hF3
 obtain⟨mk,hmk⟩:∃ mk,d%8=mk:=⟨_,rfl⟩
 rw [hmk] at km
 have hmk8:mk<8:=by omega
 have HMK:=Aside0.mk hmk
 have HF3:=Aside0.mk hF3
 clear hF3 hmk
 refine km.mono ?_
 rintro e w' ⟨rfl,rfl⟩
 clear km
 have cm:w3.cell? ⟨w2.heap.size,mk,none⟩=some (maskV mk):=by
  rw [HM3.out.cell]
  match mk,hmk8 with
  | 0,_=>rfl
  | 1,_=>rfl
  | 2,_=>rfl
  | 3,_=>rfl
  | 4,_=>rfl
  | 5,_=>rfl
  | 6,_=>rfl
  | 7,_=>rfl
 obtain⟨F,hF⟩:∃ F,132+mk=F:=⟨_,rfl⟩
 unfold maskV at cm
 rw [hF] at cm
 have hun:=fun (W:World) (GG:Grid W g b n n f)=>unmask W mk g b n f hmk8 GG (by omega)
 unfold maskV at hun
 rw [hF] at hun
 have HUN:=Aside0.mk hun
 have HG3:=Aside0.mk (show Grid w3 g b n n f by have:=HG2.out.below HB3.out HG2.out.lt.1 HG2.out.lt.2;rw [HN.out] at this;exact this)
 have HP3:=Aside0.mk (HP2.out.below HB3.out (Nat.le_refl _))
 have HV3:=Aside0.mk (HV2.out.below HB3.out (Nat.le_refl _))
 clear hF hun
 have cp:∀ o,(w3.alloc o).cell? ⟨p,0,none⟩=some (.pointer (some ⟨g,0,none⟩)):=fun o=>by
  obtain⟨x1,hb1,_⟩:=HP3.out
  exact (hb1.alloc o).cell 0
 go_wp2_with fail
 obtain⟨w4,hw4⟩:∃ w4,w4=w3.alloc (.cells #[.func (.func F) #[] #[]] 159):=⟨_,rfl⟩
 rw [<- hw4]
 obtain⟨B7,hB7⟩:∃ B7,B7=w3.heap.size:=⟨_,rfl⟩
 rw [<- hB7]
 have hb4:Below w3.heap.size w3 w4:=by rw [hw4];exact below_alloc (Below.refl _ _) _
 have HB4:=Aside0.mk hb4
 have HG4:=Aside0.mk (HG3.out.below hb4 HG3.out.lt.1 HG3.out.lt.2)
 have HP4:=Aside0.mk (HP3.out.below hb4 (Nat.le_refl _))
 have HV4:=Aside0.mk (HV3.out.below hb4 (Nat.le_refl _))
 have H7:=Aside0.mk (show Blk w4 B7 159 #[.func (.func F) #[] #[]] by rw [hw4,hB7];exact Blk.new _ _ _)
 have c7:w4.cell? ⟨B7,0,none⟩=some (.func (.func F) #[] #[]):=H7.out.cell 0
 have cp4:w4.cell? ⟨p,0,none⟩=some (.pointer (some ⟨g,0,none⟩)):=by
  obtain⟨x1,hb1,_⟩:=HP4.out
  exact hb1.cell 0
 have HBB7:=Aside0.mk hB7
 clear cp hw4 hB7 hb4 cm
 refine (gridHeight w4 g b n n f HG4.out).mono ?_
 rintro e w' ⟨rfl,rfl⟩
 go_wp2_with fail
 have HGD:=Aside0.mk (show Grid w4.drew g b n n f from HG4.out.below (below_drew1 (Below.refl _ w4)) HG4.out.lt.1 HG4.out.lt.2)
 apply held
 case r=>
  intro REST
  go_region_with (go_at_call 91;refine (HUN.out w4.drew HGD.out).mono ?_;rintro e w5 ⟨rfl,hG5,hu5⟩)
  all_goals (revert hu5 hG5;revert w5;exact REST)
 intro w5 hG5 hu5
 have HU5:=Aside0.mk (show Upd w4 w5 b from ⟨hu5.os,hu5.tape,hu5.output,hu5.size,hu5.block⟩)
 have HG5:=Aside0.mk hG5
 obtain⟨wb,hwb⟩:=HG4.out.words
 have HP5:=Aside0.mk (HP4.out.upd HU5.out hwb)
 have HV5:=Aside0.mk (HV4.out.upd_any HU5.out hwb (by decide) (by decide) (by decide) (by decide))
 clear hG5 hu5 hwb c7 cp4
 go_wp2_with fail
 refine (funcPattern w5 pv v HV.out HV5.out).mono ?_
 rintro e w6 ⟨gf,bf,rfl,hbf,hgf,hGf,hb6⟩
 rw [HN.out] at hGf
 have HGF:=Aside0.mk hGf
 have HB6:=Aside0.mk hb6
 have HG6:=Aside0.mk (HG5.out.below hb6 HG5.out.lt.1 HG5.out.lt.2)
 have HP6:=Aside0.mk (HP5.out.below hb6 (Nat.le_refl _))
 have HV6:=Aside0.mk (HV5.out.below hb6 (Nat.le_refl _))
 clear hGf hb6
 go_wp2_with fail
 refine (verTotal w6 pv v T _ HV6.out HT.out).mono ?_
 rintro e w' ⟨rfl,rfl⟩
 have mk8:=make_u8 T (by omega)
 go_wp2_with fail
 clear mk8
 obtain⟨gr,hgr⟩:∃ gr,gr=w6.heap.size:=⟨_,rfl⟩
 rw [<- hgr]
 obtain⟨w7,hw7⟩:∃ w7,w7=w6.alloc (.cells (nums .u8 (ints (List.replicate T 0))).toArray 5):=⟨_,rfl⟩
 rw [<- hw7]
 have hb7:Below gr w6 w7:=by rw [hw7,hgr];exact below_alloc (Below.refl _ _) _
 have HB7:=Aside0.mk hb7
 have HR7:=Aside0.mk (show UBlk w7 gr (List.replicate T 0) by rw [hw7,hgr];exact Blk.new _ _ _)
 have l1:=HGF.out.lt
 have l2:=HG6.out.lt
 have l3:p<w6.heap.size:=by obtain⟨x1,hb1,_⟩:=HP6.out;exact hb1.lt
 have HGF7:=Aside0.mk (HGF.out.below hb7 (by omega) (by omega))
 have HG7:=Aside0.mk (HG6.out.below hb7 (by omega) (by omega))
 have HP7:=Aside0.mk (HP6.out.below hb7 (by omega))
 have HV7:=Aside0.mk (HV6.out.below hb7 (by omega))
 have n1:gf≠gr:=by omega
 have n2:bf≠gr:=by omega
 have n3:g≠gr:=by omega
 have n4:b≠gr:=by omega
 have n5:p≠gr:=by omega
 obtain⟨fp,hfp⟩:∃ fp,fpB v (ctrs v)=fp:=⟨_,rfl⟩
 obtain⟨bt,hbt⟩:∃ bt:Nat->Nat->Bool,(fun x y=>f x y != maskB mk x y)=bt:=⟨_,rfl⟩
 rw [hfp] at HGF7
 rw [hbt] at HG7
 obtain⟨ALL,hall⟩:∃ ALL,bitsAt bt (way n fp)=ALL:=⟨_,rfl⟩
 have hlenA:ALL.length=roomN v:=by
  rw [<- hall,bitsAt_len,<- hfp,<- HN.out]
  exact way_len v HV.out
 obtain⟨R,hRR⟩:∃ R,roomN v=R:=⟨_,rfl⟩
 rw [hRR] at hlenA
 have hRT:R/8=T:=by rw [<- hRR];exact HTD.out
 have hRl:R<=40000:=by rw [<- hRR];exact HR.out
 have HALL:=Aside0.mk hall
 have HLEN:=Aside0.mk hlenA
 have HFP:=Aside0.mk hfp
 have HBT:=Aside0.mk hbt
 have HRT:=Aside0.mk hRT
 have HRR:=Aside0.mk hRR
 have HGR:=Aside0.mk hgr
 have HHB:=Aside0.mk (And.intro hbf hgf)
 clear hw7 hb7 l1 l2 l3 hall hlenA hfp hbt hRT hRR hgr hbf hgf
 go_loopw [10,12,13,14,15] (fun vu vo vc vb vj wr=>∃ (L:List Bool) (o c m:Nat) (j:Int) (k:Nat) (up:Bool),vu=.bool up/\vo=.int .i64 (o:Int)/\vc=.int .i64 (c:Int)/\vb=.int .i64 (m:Int)/\vj=.int .i64 j/\-1<=j/\j<n/\j.toNat<=k/\o<=5000/\c<=127/\m<=7/\
  Aside0 (o=L.length/8/\c=accB L/\m=L.length%8)/\Aside0 (L++bitsAt bt (wayF n fp k j.toNat up)=ALL)/\Aside0 (UBlk wr gr (bytesTo T L))/\Aside0 (Turn w7 wr gr)) (fun _ _ _ _ vj _=>(intOf vj+2).toNat)
 case atStart=>exact⟨[],0,0,0,(n:Int)-1,n,true,rfl,rfl,rfl,rfl,rfl,by omega,by omega,by omega,by omega,by omega,by omega,⟨⟨rfl,rfl,rfl⟩⟩,⟨by rw [<- HALL.out,show ((n:Int)-1).toNat=n-1 by omega];rfl⟩,⟨by have:=HR7.out;unfold bytesTo;simpa using this⟩,⟨Turn.refl _ _⟩⟩
 case round=>
  obtain⟨L,o,c,m,j,k,up,rfl,rfl,rfl,rfl,rfl,hj1,hj2,hjk,ho,hc,hm,HS,HW,HU,HTN⟩:=hrel
  by_cases hj0:0<j
  ·obtain⟨right,rfl⟩:∃ right:Nat,j=(right:Int):=⟨j.toNat,by omega⟩
   rw [Int.toNat_natCast] at hjk HW
   have hr1:1<=right:=by omega
   obtain⟨rt,hrt⟩:∃ rt,fixR right=rt:=⟨_,rfl⟩
   have hrt1:1<=rt/\rt<=right:=by rw [<- hrt];unfold fixR;split<;>omega
   obtain⟨hrt1,hrt2⟩:=hrt1
   obtain⟨k',rfl⟩:∃ k',k=k'+1:=⟨k-1,by omega⟩
   have hway:L++(bitsAt bt (colPair n fp rt up n)++bitsAt bt (wayF n fp k' (rt-2) (!up)))=ALL:=by
    have h:=HW.out
    rw [wayF,if_neg (by omega),hrt,bitsAt_append] at h
    exact h
   have hfit:L.length+(colPair n fp rt up n).length<=R:=by
    have h:=congrArg List.length hway
    rw [List.length_append,List.length_append,HLEN.out,bitsAt_len] at h
    omega
   have HWAY:=Aside0.mk hway
   have HFIT:=Aside0.mk hfit
   have HRTT:=Aside0.mk hrt
   have h56:right=6->rt=5:=by intro h;rw [<- hrt,h];rfl
   have h56':right≠6->rt=right:=by intro h;rw [<- hrt];unfold fixR;rw [if_neg h]
   have H56:=Aside0.mk (And.intro h56 h56')
   clear hway hfit hrt h56 h56'
   by_cases h6:right=6
   all_goals
    first
     | (subst h6;have e5:=H56.out.1 rfl;go_wp2_with fail;rw [show Value.int .i64 (5:Int)=Value.int .i64 (rt:Int) by rw [e5];rfl];clear e5)
     | (have e5:=H56.out.2 h6;subst e5;go_wp2_with fail)
    obtain⟨wo,rfl⟩:∃ wo:World,wo=wr:=⟨_,rfl⟩
    go_loopw [12,13,14,16] (fun vo vc vb vt wi=>∃ (L':List Bool) (o c m t:Nat),vo=.int .i64 (o:Int)/\vc=.int .i64 (c:Int)/\vb=.int .i64 (m:Int)/\vt=.int .i64 (t:Int)/\t<=n/\o<=5000/\c<=127/\m<=7/\
     Aside0 (o=L'.length/8/\c=accB L'/\m=L'.length%8)/\Aside0 (L'=L++bitsAt bt (colPair n fp rt up t))/\Aside0 (UBlk wi gr (bytesTo T L'))/\Aside0 (Turn w7 wi gr)) (fun _ _ _ vt _=>(n-intOf vt).toNat)
    case atStart=>exact⟨L,o,c,m,0,rfl,rfl,rfl,rfl,by omega,ho,hc,hm,HS,⟨by rw [colPair];unfold bitsAt;simp⟩,HU,HTN⟩
    case round=>
     obtain⟨L',o',c',m',t,rfl,rfl,rfl,rfl,ht,ho',hc',hm',HS',HL',HU',HTN'⟩:=hrel
     by_cases htn:t<n
     ·obtain⟨r,hr⟩:∃ r,rowAt n up t=r:=⟨_,rfl⟩
      have hrn:r<n:=by rw [<- hr];exact rowAt_lt n up t htn
      have HRW:=Aside0.mk hr
      have hup1:up=true->(n:Int)-1-(t:Int)=(r:Int):=by intro h;rw [<- hr,h];unfold rowAt;simp;omega
      have hup2:up=false->t=r:=by intro h;rw [<- hr,h];rfl
      have HUP:=Aside0.mk (And.intro hup1 hup2)
      have hfit2:L'.length+(pairAt fp rt r).length<=R:=by
       have e:=congrArg List.length HL'.out
       rw [List.length_append,bitsAt_len] at e
       have h1:=colPair_mono n fp rt up (t+1) (n-(t+1))
       rw [show t+1+(n-(t+1))=n by omega,colPair,List.length_append,hr] at h1
       have:=HFIT.out
       omega
      have HFIT2:=Aside0.mk hfit2
      clear hr hup1 hup2 hfit2
      cases up
      all_goals
       first
        | (have HE:=Aside0.mk (show (n:Int)-1-(t:Int)=(r:Int) from HUP.out.1 rfl))
        | (have HE:=Aside0.mk (show t=r from HUP.out.2 rfl))
       go_wp2_with fail
       rw [HE.out]
       obtain⟨w2o,rfl⟩:∃ w2o:World,w2o=wr:=⟨_,rfl⟩
       go_loopw [12,13,14,18] (fun vo vc vb vs wi=>∃ (L2:List Bool) (o c m s:Nat),vo=.int .i64 (o:Int)/\vc=.int .i64 (c:Int)/\vb=.int .i64 (m:Int)/\vs=.int .i64 (s:Int)/\s<=2/\o<=5000/\c<=127/\m<=7/\
        Aside0 (o=L2.length/8/\c=accB L2/\m=L2.length%8)/\Aside0 (L2=L'++bitsAt bt (pairTo fp rt r s))/\Aside0 (UBlk wi gr (bytesTo T L2))/\Aside0 (Turn w7 wi gr)) (fun _ _ _ vs _=>(2-intOf vs).toNat)
       case atStart=>exact⟨L',o',c',m',0,rfl,rfl,rfl,rfl,by omega,ho',hc',hm',HS',⟨by unfold pairTo bitsAt;simp⟩,HU',HTN'⟩
       case round=>
        obtain⟨L2,o2,c2,m2,s,rfl,rfl,rfl,rfl,hs,ho2,hc2,hm2,HS2,HL2,HU2b,HTN2⟩:=hrel
        by_cases hs2:s<2
        ·obtain⟨x,hx⟩:∃ x,rt-s=x:=⟨_,rfl⟩
         have hxi:(rt:Int)-(s:Int)=(x:Int):=by omega
         have hxn:x<n:=by omega
         have kf:=gridGet wr gf bf n n fp x r (HGF7.out.keep (HTN2.out.block gf n1) (HTN2.out.block bf n2)) hxn hrn (by omega) (by omega)
         have km:=gridGet wr g b n n bt x r (HG7.out.keep (HTN2.out.block g n3) (HTN2.out.block b n4)) hxn hrn (by omega) (by omega)
         have cp:wr.cell? ⟨p,0,none⟩=some (.pointer (some ⟨g,0,none⟩)):=by
          obtain⟨x1,hb1,_⟩:=HP7.out
          exact (HTN2.out.blk hb1 n5).cell 0
         have hstep:=pairTo_step fp rt r s hs2
         rw [hx] at hstep
         have hle:=pairTo_le fp rt r (s+1) (by omega)
         have HXI:=Aside0.mk hx
         clear hx
         cases hfx:fp x r with
         | true=>
          rw [hfx] at kf hstep
          have HST:=Aside0.mk hstep
          clear hfx hstep hle km
          go_wp2_with (go_at_call_of 94 (Value.pointer (some ⟨gf,0,none⟩));refine kf.mono ?_;rintro e w' ⟨rfl,rfl⟩)
          go_roundw
          case rel=>exact⟨L2,o2,c2,m2,s+1,rfl,rfl,rfl,by go_num,by omega,ho2,hc2,hm2,HS2,⟨by rw [HST.out];simp only [if_true,List.append_nil];exact HL2.out⟩,HU2b,HTN2⟩
          case measure=>simp [intOf];omega
         | false=>
          rw [hfx] at kf hstep
          have hnew:L2++[bt x r]=L'++bitsAt bt (pairTo fp rt r (s+1)):=by
           rw [hstep,bitsAt_append,<- List.append_assoc,<- HL2.out]
           rfl
          have hroom:L2.length+1<=R:=by
           have e:=congrArg List.length hnew
           rw [List.length_append,List.length_append,bitsAt_len] at e
           have:=HFIT2.out
           simp at e
           omega
          have HNEW:=Aside0.mk hnew
          have HROOM:=Aside0.mk hroom
          obtain⟨e1,e2,e3⟩:=HS2.out
          obtain⟨z,hz⟩:∃ z,2*c2+(bt x r).toNat=z:=⟨_,rfl⟩
          have hzl:z<=255:=by have:(bt x r).toNat<=1:=Bool.toNat_le _;omega
          have hzt:bt x r=true->Go.bits .or .i64 ((c2:Int)*2) 1=(z:Int):=by intro h;rw [or_one_i c2 (by omega),<- hz,h];rfl
          have hzf:bt x r=false->(c2:Int)*2=(z:Int):=by intro h;rw [<- hz,h];simp;omega
          have HZ:=Aside0.mk hz
          clear hfx hstep hle hnew hroom hz
          by_cases hm7:m2=7
          ·subst hm7
           have hacc:=acc_full L2 (bt x r) (by omega)
           have hset:=bytesTo_full T L2 (bt x r) (by omega) (by have:=HROOM.out;have:=HRT.out;omega)
           have hbl:(bytesTo T L2).length=T:=bytesTo_len T L2 (by have:=HROOM.out;have:=HRT.out;omega)
           have hoT:o2<T:=by have:=HROOM.out;have:=HRT.out;omega
           have k1:=HU2b.out.cell o2 (by rw [hbl];exact hoT)
           have k2:wr.frozen? ⟨gr,o2,none⟩=false:=Blk.frozen HU2b.out o2
           obtain⟨old,hold⟩:∃ old,(bytesTo T L2).getD o2 0=old:=⟨_,rfl⟩
           rw [hold] at k1
           have HSET:=Aside0.mk (show UBlk (wr.setCell ⟨gr,o2,none⟩ (.int .u8 (z:Int))) gr (bytesTo T (L2++[bt x r])) by
            have h:=HU2b.out.set o2 z
            rw [<- hset,<- e1,<- e2,HZ.out]
            exact h)
           have HS3:=Aside0.mk (show o2+1=(L2++[bt x r]).length/8/\0=accB (L2++[bt x r])/\0=(L2++[bt x r]).length%8 by
            have hl:(L2++[bt x r]).length=L2.length+1:=by simp
            exact⟨by omega,(acc_zero _ (by omega)).symm,by omega⟩)
           have HT3:=Aside0.mk (HTN2.out.trans (Turn.set wr gr o2 (.int .u8 (z:Int))))
           clear e1 e2 e3 hacc hset hbl hold
           cases hbb:bt x r
           all_goals
            rw [hbb] at km
            first | (have hq:=hzt hbb) | (have hq:=hzf hbb)
            have HBB:=Aside0.mk hbb
            clear hzt hzf hbb
            go_wp2_with (first | (go_at_call_of 94 (Value.pointer (some ⟨gf,0,none⟩));refine kf.mono ?_;rintro e w' ⟨rfl,rfl⟩) | (go_at_call_of 94 (Value.pointer (some ⟨g,0,none⟩));refine km.mono ?_;rintro e w' ⟨rfl,rfl⟩))
            go_roundw
            case rel=>exact⟨L2++[bt x r],o2+1,0,0,s+1,by go_num,rfl,rfl,by go_num,by omega,by omega,by omega,by omega,HS3,HNEW,HSET,HT3⟩
            case measure=>simp [intOf];omega
          ·obtain⟨a1,a2,a3⟩:=acc_more L2 (bt x r) (by omega)
           have HS3:=Aside0.mk (show o2=(L2++[bt x r]).length/8/\z=accB (L2++[bt x r])/\m2+1=(L2++[bt x r]).length%8 from ⟨by rw [a2];exact e1,by rw [a1,<- e2];exact HZ.out.symm,by rw [a3,<- e3]⟩)
           have HSET:=Aside0.mk (show UBlk wr gr (bytesTo T (L2++[bt x r])) by rw [bytesTo_more T L2 (bt x r) (by omega)];exact HU2b.out)
           have hz7:z<=127:=by have:=accB_lt7 (L2++[bt x r]);have:=HS3.out.2.1;omega
           have hmb:m2+1<=7:=by omega
           clear e1 e2 e3 a1 a2 a3
           cases hbb:bt x r
           all_goals
            rw [hbb] at km
            first | (have hq:=hzt hbb) | (have hq:=hzf hbb)
            have HBB:=Aside0.mk hbb
            clear hzt hzf hbb
            go_wp2_with (first | (go_at_call_of 94 (Value.pointer (some ⟨gf,0,none⟩));refine kf.mono ?_;rintro e w' ⟨rfl,rfl⟩) | (go_at_call_of 94 (Value.pointer (some ⟨g,0,none⟩));refine km.mono ?_;rintro e w' ⟨rfl,rfl⟩))
            go_roundw
            case rel=>exact⟨L2++[bt x r],o2,z,m2+1,s+1,rfl,by first | rfl | go_num,by go_num,by go_num,by omega,ho2,hz7,hmb,HS3,HNEW,HSET,HTN2⟩
            case measure=>simp [intOf];omega
        ·have:s=2:=by omega
         subst this
         set_option maxRecDepth 8000 in go_wp2_with fail
         go_roundw
         case rel=>exact⟨L2,o2,c2,m2,t+1,rfl,rfl,rfl,by first | go_num | (rw [HE.out];go_num),by omega,ho2,hc2,hm2,HS2,⟨by rw [HL2.out,HL'.out,colPair,bitsAt_append,pairTo_two,HRW.out,List.append_assoc]⟩,HU2b,HTN2⟩
         case measure=>first | (simp [intOf];omega) | (have eUP:=HE.out;simp [intOf];omega)
     ·have:n=t:=by omega
      subst this
      set_option maxRecDepth 8000 in go_wp2_with fail
      go_roundw
      case rel=>exact⟨L',o',c',m',(rt:Int)-2,k',!up,by rfl,rfl,rfl,rfl,by go_num,by omega,by omega,by omega,ho',hc',hm',HS',⟨by rw [HL'.out,List.append_assoc,show ((rt:Int)-2).toNat=rt-2 by omega];exact HWAY.out⟩,HU',HTN'⟩
      case measure=>simp only [intOf];omega
  ·have hL:L=ALL:=by
    have h:=HW.out
    rw [show j.toNat=0 by omega] at h
    have hw0:wayF n fp k 0 up=[]:=by cases k with | zero=>rfl | succ k=>rw [wayF,if_pos rfl]
    rw [hw0] at h
    unfold bitsAt at h
    simpa using h
   subst hL
   have hoT:o=T:=by have:=HS.out.1;have:=HLEN.out;have:=HRT.out;omega
   subst hoT
   have kt:=verTotal wr pv v o _ (HV7.out.upd_any (Upd.of_turn HTN.out) HR7.out (by decide) (by decide) (by decide) (by decide)) HT.out
   go_wp2_with (go_at_call 93;refine kt.mono ?_;rintro e w' ⟨rfl,rfl⟩)
   go_ret2
   have hres:bytesTo o L=wordsOf v mk f:=by
    unfold bytesTo wordsOf wayBits
    rw [HBT.out,HN.out,HFP.out,HALL.out,HTD.out,show L.length/8=o by have:=HS.out.1;omega,Nat.sub_self,List.replicate_zero,List.append_nil]
   have hGend:Grid wr g b n n bt:=HG7.out.keep (HTN.out.block g n3) (HTN.out.block b n4)
   have hu:Upd2 w wr p b:=by
    have a1:Upd2 w w2 p b:=Upd2.of HU2.out b
    have a3:Upd2 w2 w3 p b:=Upd2.of (Upd.of_below HB3.out p) b
    have a4:Upd2 w3 w4 p b:=Upd2.of (Upd.of_below HB4.out p) b
    have a5:Upd2 w4 w5 p b:=Upd2.of' HU5.out p
    have a6:Upd2 w5 w6 p b:=Upd2.of (Upd.of_below HB6.out p) b
    have a7:Upd2 w6 w7 p b:=Upd2.of (Upd.of_below (by have:=HB7.out;rw [HGR.out] at this;exact this) p) b
    have a6':=((((a1.trans a3).trans a4).trans a5).trans a6).trans a7
    refine⟨HTN.out.os.trans a6'.os,HTN.out.tape.trans a6'.tape,HTN.out.output.trans a6'.output,by rw [HTN.out.size];exact a6'.size,fun i hi h1 h2=>?_⟩
    have hs:w.heap.size<=gr:=by rw [HGR.out];exact (((((a1.trans a3).trans a4).trans a5).trans a6)).size
    rw [HTN.out.block i (by omega)]
    exact a6'.block i hi h1 h2
   refine⟨gr,by first | (rw [HTD.out];done) | (rw [HTD.out];rfl),?_,?_,?_,hu⟩
   ·rw [HGR.out]
    have a1:Upd2 w w2 p b:=Upd2.of HU2.out b
    have a3:Upd2 w2 w3 p b:=Upd2.of (Upd.of_below HB3.out p) b
    have a4:Upd2 w3 w4 p b:=Upd2.of (Upd.of_below HB4.out p) b
    have a5:Upd2 w4 w5 p b:=Upd2.of' HU5.out p
    have a6:Upd2 w5 w6 p b:=Upd2.of (Upd.of_below HB6.out p) b
    exact ((((a1.trans a3).trans a4).trans a5).trans a6).size
   ·rw [HMK.out,<- hres]
    exact HU.out
   ·rw [HN.out,HMK.out,HBT.out]
    exact hGend
end Go.Proofs.YtgccjgpdjkhpdaaGreat.B
