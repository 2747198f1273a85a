import Derived.Test.YtgccjgpdjkhpdaaGreatVQ3
/-! Own texts of this claim, part 5. -/
namespace Go.Proofs.YtgccjgpdjkhpdaaGreat.B
open Go.RowKit Go.Proofs.YtgccjgpdjkhpdaaGreatW.PrintWords Go.Proofs.YtgccjgpdjkhpdaaGreatW.PrintLast Go.Proofs.YtgccjgpdjkhpdaaGreatW.PrintMore
set_option linter.unusedVariables false
set_option linter.unusedSimpArgs false
def Blk (w:World)(g:Nat)(t:TypeId)(cs:Array Value):Prop:=w.heap[g]? = some (.cells cs t (0,0))
theorem Blk.cell {w:World}{g:Nat}{t:TypeId}{cs:Array Value}(h:Blk w g t cs)(i:Nat):w.cell? ⟨g,i,none⟩=cs[i]?:=blk_cell h i
theorem Blk.frozen {w:World}{g:Nat}{t:TypeId}{cs:Array Value}(h:Blk w g t cs)(i:Nat):w.frozen? ⟨g,i,none⟩=false:=blk_frozen h i
theorem Blk.lt {w:World}{g:Nat}{t:TypeId}{cs:Array Value}(h:Blk w g t cs):g<w.heap.size:=blk_lt h
theorem Blk.ucell {w:World}{g:Nat}{t:TypeId}{k:IntKind}{xs:List Int}(h:Blk w g t (nums k xs).toArray)(i:Int)(h0:0<=i)(h1:i<xs.length):w.cell? ⟨g,i.toNat,none⟩=some (.int k (rd xs i)):=by
 rw [h.cell]
 simp [nums,rd,List.getD,List.getElem?_eq_getElem (show i.toNat<xs.length by omega)]
theorem Blk.uset {w:World}{g:Nat}{t:TypeId}{k:IntKind}{xs:List Int}(h:Blk w g t (nums k xs).toArray)(i:Nat)(v:Int):Blk (w.setCell ⟨g,i,none⟩ (.int k v)) g t (nums k (xs.set i v)).toArray:=by
 have:=blk_set h i (.int k v)
 unfold Blk
 rw [this]
 simp [nums,List.map_set]
theorem Blk.far {w:World}{g:Nat}{t:TypeId}{cs:Array Value}(h:Blk w g t cs){p:Addr}(hp:g≠p.block)(u:Value):Blk (w.setCell p u) g t cs:=blk_far h hp u
theorem Blk.alloc {w:World}{g:Nat}{t:TypeId}{cs:Array Value}(h:Blk w g t cs)(o:Obj):Blk (w.alloc o) g t cs:=blk_alloc h o
theorem Blk.below {w w':World}{g:Nat}{t:TypeId}{cs:Array Value}{B:Nat}(h:Blk w g t cs)(hb:Below B w w')(hg:g<B):Blk w' g t cs:=(hb.block g hg).trans h
theorem Blk.new (w:World)(t:TypeId)(cs:Array Value):Blk (w.alloc (.cells cs t)) w.heap.size t cs:=heap_alloc_new w _
theorem info130u:(Tryz.prog.info? 214).map (fun i=>(i.zero,i.size,i.bytes))=some (some (.int .u32 0),1,4):=by kernel_rfl
theorem run_make_rowN {P:Program}(t e:TypeId)(i:TypeInfo)(z:Value)(ht:P.underlying t=some (.slice e))(hi:P.info? e=some i)(hz:i.zero=some z)
  (kl kc:IntKind) (n c:Nat) (hnc:n<=c) (hbytes:i.bytes*c<=281474976710656) (h63:c<=9223372036854775807) (w:World) :
  (Instr.makeSlice t (.int kl (n:Int)) (.int kc (c:Int))).run P w=.ok (.slice (some ⟨w.heap.size,0,none⟩) n c) (w.alloc (.cells (madeCells z.cells (c*i.size)) e)):=by
 have hb:(i.bytes:Int)*(c:Int)<=281474976710656:=by
  have h:((i.bytes*c:Nat):Int)<=281474976710656:=by omega
  rwa [Int.natCast_mul] at h
 have hr:=run_make (P:=P) w t e i z ht hi hz kl kc n c (by omega) (by omega) hb (by omega)
 simp only [Int.toNat_natCast] at hr
 exact hr
theorem make_u32 (n:Nat)(h:n<=1000000000)(w:World):(Instr.makeSlice 199 (.int .i64 (n:Int)) (.int .i64 (n:Int))).run Tryz.prog w=.ok (.slice (some ⟨w.heap.size,0,none⟩) n n) (w.alloc (.cells (nums .u32 (List.replicate n 0)).toArray 214)):=by
 obtain⟨i,hi,hz,hs,hb⟩:=info_parts info130u
 have:=run_make_rowN (P:=Tryz.prog) 199 214 i (.int .u32 0) Tryz.underlying199 hi hz .i64 .i64 n n (Nat.le_refl _) (by rw [hb];omega) (by omega) w
 have e:madeCells (Value.int .u32 0).cells (n*1)=(nums .u32 (List.replicate n 0)).toArray:=by
  apply Array.toList_inj.1
  rw [Nat.mul_one]
  exact (toList_madeCells_one _ _).trans (by simp [nums])
 rw [this,hs,e]
theorem newBM (w:World)(wd ht rs:Int)(N:Nat)(h1:1<=wd)(h2:1<=ht)(h3:wd<=100000000)(hrs:(wd+31)/32=rs)(hn:rs*ht=(N:Int))(hN:N<=1000000000) :
  Calls Tryz.prog 147 #[.int .i64 wd,.int .i64 ht] w fun e w'=>e=.returned (.tuple #[.pointer (some ⟨w.heap.size+1,0,none⟩),.nilIface])/\
   w'=(w.alloc (.cells (nums .u32 (List.replicate N 0)).toArray 214)).alloc (.cells #[.int .i64 wd,.int .i64 ht,.int .i64 rs,.slice (some ⟨w.heap.size,0,none⟩) N N] 201):=by
 have hmk:=make_u32 N hN
 have a1:¬ wd<1:=by omega
 have a2:¬ ht<1:=by omega
 have a3:wrap64 (rs*ht)=(N:Int):=by rw [hn];unfold wrap64;omega
 go_enter Tryz.func147,Tryz.ntmps147
 go_wp2
 go_ret2
 exact⟨rfl,rfl⟩
structure Turn (w w':World)(gb:Nat):Prop where
 os:w'.os=w.os
 tape:w'.tape=w.tape
 output:w'.output=w.output
 size:w'.heap.size=w.heap.size
 block:∀ k,k≠gb->w'.heap[k]? = w.heap[k]?
theorem Turn.refl (w:World)(gb:Nat):Turn w w gb:=⟨rfl,rfl,rfl,rfl,fun _ _=>rfl⟩
theorem Turn.trans {a b c:World}{gb:Nat}(h:Turn a b gb)(k:Turn b c gb):Turn a c gb:=⟨k.os.trans h.os,k.tape.trans h.tape,k.output.trans h.output,k.size.trans h.size,fun i hi=>(k.block i hi).trans (h.block i hi)⟩
theorem Turn.set (w:World)(gb i:Nat)(u:Value):Turn w (w.setCell ⟨gb,i,none⟩ u) gb:=⟨rfl,rfl,rfl,by simp [World.setCell],fun k hk=>Below.heap_setCell w _ u k hk⟩
theorem Turn.blk {w w':World}{gb g:Nat}{t:TypeId}{cs:Array Value}(h:Turn w w' gb)(hb:Blk w g t cs)(hne:g≠gb):Blk w' g t cs:=(h.block g hne).trans hb
theorem Turn.below {w w':World}{gb B:Nat}(h:Turn w w' gb)(hB:B<=gb):Below B w w':=⟨h.os,h.tape,h.output,by rw [h.size];exact Nat.le_refl _,fun k hk=>h.block k (by omega)⟩
def orBit (xs:List Int)(o x:Int):List Int:=xs.set (o+x/32).toNat (Go.bits .or .u32 (rd xs (o+x/32)) (2 ^ (x%32).toNat%4294967296))
def sregX (xs:List Int)(o left:Int):Nat->List Int
 | 0=>xs
 | n+1=>orBit (sregX xs o left n) o (left+n)
def sreg (xs:List Int)(rs left:Int)(n:Nat)(top:Int):Nat->List Int
 | 0=>xs
 | m+1=>sregX (sreg xs rs left n top m) ((top+m)*rs) left n
theorem orBit_length (xs:List Int)(o x:Int):(orBit xs o x).length=xs.length:=by simp [orBit]
theorem sregX_length (xs:List Int)(o left:Int)(n:Nat):(sregX xs o left n).length=xs.length:=by
 induction n with
 | zero=>rfl
 | succ n ih=>rw [sregX,orBit_length,ih]
theorem sreg_length (xs:List Int)(rs left:Int)(n:Nat)(top:Int)(m:Nat):(sreg xs rs left n top m).length=xs.length:=by
 induction m with
 | zero=>rfl
 | succ m ih=>rw [sreg,sregX_length,ih]
theorem sregX_step (xs:List Int)(o left x:Int)(h:left<=x):sregX xs o left (x+1-left).toNat=orBit (sregX xs o left (x-left).toNat) o x:=by
 rw [show (x+1-left).toNat=(x-left).toNat+1 by omega,sregX,show left+((x-left).toNat:Int)=x by omega]
theorem sreg_step (xs:List Int)(rs left:Int)(n:Nat)(top y:Int)(h:top<=y):sreg xs rs left n top (y+1-top).toNat=sregX (sreg xs rs left n top (y-top).toNat) (y*rs) left n:=by
 rw [show (y+1-top).toNat=(y-top).toNat+1 by omega,sreg,show top+((y-top).toNat:Int)=y by omega]
set_option maxHeartbeats 1000000 in
theorem setRegion (w:World)(g gb:Nat)(wd ht rs left top n m:Int)(xs:List Int)(N:Nat)
  (hg:Blk w g 201 #[.int .i64 wd,.int .i64 ht,.int .i64 rs,.slice (some ⟨gb,0,none⟩) N N]) (hb:Blk w gb 214 (nums .u32 xs).toArray) (hl:xs.length=N) (hN:N<=1000000000)
  (hrs:(wd+31)/32=rs) (hn:rs*ht=(N:Int)) (h0:0<=left) (h1:0<=top) (h2:1<=n) (h3:1<=m) (h4:left+n<=wd) (h5:top+m<=ht) (h6:wd<=100000000) (h7:ht<=100000000) :
  Calls Tryz.prog 142 #[.pointer (some ⟨g,0,none⟩),.int .i64 left,.int .i64 top,.int .i64 n,.int .i64 m] w fun e w'=>e=.returned .nilIface/\
   Blk w' gb 214 (nums .u32 (sreg xs rs left n.toNat top m.toNat)).toArray/\Turn w w' gb:=by
 have hne:g≠gb:=blk_ne hg hb (by decide)
 have c0:w.cell? ⟨g,0,none⟩=some (.int .i64 wd):=hg.cell 0
 have c1:w.cell? ⟨g,1,none⟩=some (.int .i64 ht):=hg.cell 1
 have HG:=Aside0.mk hg
 have HB:=Aside0.mk hb
 have HL:=Aside0.mk hl
 have HN:=Aside0.mk hn
 have HR:=Aside0.mk hrs
 clear hg hb hl hn hrs
 go_enter Tryz.func142,Tryz.ntmps142
 go_wp2
 go_loopw [13] (fun v wr=>∃ y:Int,top<=y/\y<=top+m/\v=.int .i64 y/\Aside0 (Blk wr gb 214 (nums .u32 (sreg xs rs left n.toNat top (y-top).toNat)).toArray)/\Aside0 (Turn w wr gb)) (fun v _=>(top+m-intOf v).toNat)
 case atStart=>exact⟨top,by omega,by omega,rfl,⟨by rw [show (top-top).toNat=0 by omega];exact HB.out⟩,⟨Turn.refl _ _⟩⟩
 case round=>
  obtain⟨y,hy1,hy2,rfl,HY,HT⟩:=hrel
  clear c0 c1
  by_cases hlt:y<top+m
  ·have hgr:=HT.out.blk HG.out hne
   have c2:wr.cell? ⟨g,2,none⟩=some (.int .i64 rs):=hgr.cell 2
   clear hgr
   obtain⟨o,ho⟩:∃ o,y*rs=o:=⟨_,rfl⟩
   have ho1:0<=o/\o+rs<=N:=by
    have hr0:0<=rs:=by have:=HR.out;omega
    have hq:=HN.out
    have e1:=Int.mul_le_mul_of_nonneg_right (show y+1<=ht by omega) hr0
    have e2:(y+1)*rs=y*rs+rs:=by rw [Int.add_mul,Int.one_mul]
    have e3:ht*rs=rs*ht:=Int.mul_comm _ _
    have e4:=Int.mul_nonneg (show 0<=y by omega) hr0
    omega
   obtain⟨ho1,ho2⟩:=ho1
   have hr0:0<=rs:=by have:=HR.out;omega
   have how:wrap64 (y*rs)=o:=by rw [ho];unfold wrap64;omega
   have HO:=Aside0.mk ho
   clear ho
   obtain⟨ys,hys⟩:∃ ys,sreg xs rs left n.toNat top (y-top).toNat=ys:=⟨_,rfl⟩
   have hyl:ys.length=N:=by rw [<- hys,sreg_length,HL.out]
   rw [hys] at HY
   have HYS:=Aside0.mk hys
   have HYL:=Aside0.mk hyl
   clear hys hyl
   go_wp2
   obtain⟨wo,rfl⟩:∃ wo:World,wo=wr:=⟨_,rfl⟩
   clear c2
   go_loopw [15] (fun v wi=>∃ x:Int,left<=x/\x<=left+n/\v=.int .i64 x/\Aside0 (Blk wi gb 214 (nums .u32 (sregX ys o left (x-left).toNat)).toArray)/\Aside0 (Turn wo wi gb)) (fun v _=>(left+n-intOf v).toNat)
   case atStart=>exact⟨left,by omega,by omega,rfl,⟨by rw [show (left-left).toNat=0 by omega];exact HY.out⟩,⟨Turn.refl _ _⟩⟩
   case round=>
    obtain⟨x,hx1,hx2,rfl,HX,HU⟩:=hrel
    by_cases hlx:x<left+n
    ·have hgr:=HU.out.blk (HT.out.blk HG.out hne) hne
     have c3:wr.cell? ⟨g,3,none⟩=some (.slice (some ⟨gb,0,none⟩) N N):=hgr.cell 3
     clear hgr
     obtain⟨zs,hzs⟩:∃ zs,sregX ys o left (x-left).toNat=zs:=⟨_,rfl⟩
     have hzl:zs.length=N:=by rw [<- hzs,sregX_length,HYL.out]
     rw [hzs] at HX
     have b0:0<=o+x/32:=by omega
     have b1:o+x/32<(N:Int):=by have:=HR.out;omega
     have c4:wr.cell? ⟨gb,(o+x/32).toNat,none⟩=some (.int .u32 (rd zs (o+x/32))):=HX.out.ucell _ b0 (by omega)
     have c5:=HX.out.frozen (o+x/32).toNat
     have HZ:=Aside0.mk hzs
     clear hzs hzl
     go_wp2
     go_roundw
     case rel=>exact⟨x+1,by omega,by omega,by go_num,⟨by rw [sregX_step _ _ _ _ hx1,HZ.out];exact HX.out.uset _ _⟩,⟨HU.out.trans (Turn.set _ _ _ _)⟩⟩
     case measure=>simp [intOf];omega
    ·have:x=left+n:=by omega
     subst this
     go_wp2
     go_roundw
     case rel=>exact⟨y+1,by omega,by omega,by go_num,⟨by rw [sreg_step _ _ _ _ _ _ hy1,HYS.out,HO.out];have:=HX.out;rwa [show (left+n-left).toNat=n.toNat by omega] at this⟩,⟨HT.out.trans HU.out⟩⟩
     case measure=>simp [intOf];omega
  ·have:y=top+m:=by omega
   subst this
   go_wp2
   go_ret
   refine⟨rfl,?_,HT.out⟩
   have:=HY.out
   rwa [show (top+m-top).toNat=m.toNat by omega] at this
def bval (l:List Bool):Nat:=l.foldl (fun a b=>2*a+b.toNat) 0
theorem bvalF (l:List Bool):∀ a,l.foldl (fun a b=>2*a+b.toNat) a=a*2 ^ l.length+bval l:=by
 induction l with
 | nil=>intro a;simp [bval]
 | cons b l ih=>
  intro a
  unfold bval
  rw [List.foldl_cons,List.foldl_cons,ih,ih,List.length_cons,Nat.pow_succ,Nat.add_mul,Nat.add_mul,Nat.mul_zero,Nat.zero_mul,Nat.zero_add,<- Nat.add_assoc,Nat.mul_assoc,Nat.mul_left_comm,Nat.mul_comm (2 ^ l.length) 2]
theorem bval_append (k l:List Bool):bval (k++l)=bval k*2 ^ l.length+bval l:=by
 unfold bval
 rw [List.foldl_append]
 exact bvalF l _
theorem bval_lt (l:List Bool):bval l<2 ^ l.length:=by
 induction l with
 | nil=>decide
 | cons b l ih=>
  rw [show b :: l=[b]++l from rfl,bval_append,List.length_append,Nat.pow_add,show bval [b]=b.toNat from by simp [bval]]
  have:b.toNat<=1:=Bool.toNat_le b
  have h2:b.toNat*2 ^ l.length<=1*2 ^ l.length:=Nat.mul_le_mul_right _ this
  rw [show (2:Nat) ^ [b].length=2 from rfl,Nat.two_mul]
  omega
def byteBits (x:Nat):List Bool:=(List.range 8).map fun i=>x.testBit (7-i)
theorem byteBits_len (x:Nat):(byteBits x).length=8:=by simp [byteBits]
theorem byte_look:∀ x:Fin 256,∀ o:Fin 9,∀ t:Fin 9,o.val+t.val<=8->bval (((byteBits x.val).drop o.val).take t.val)=x.val/2 ^ (8-o.val-t.val)%2 ^ t.val:=by decide +kernel
theorem byte_seg (x o t:Nat)(hx:x<256)(h:o+t<=8):bval (((byteBits x).drop o).take t)=x/2 ^ (8-o-t)%2 ^ t:=byte_look ⟨x,hx⟩ ⟨o,by omega⟩ ⟨t,by omega⟩ h
def streamBits (xs:List Nat):List Bool:=xs.flatMap byteBits
theorem streamBits_len (xs:List Nat):(streamBits xs).length=8*xs.length:=by
 unfold streamBits
 induction xs with
 | nil=>rfl
 | cons x xs ih=>rw [List.flatMap_cons,List.length_append,ih,byteBits_len,List.length_cons];omega
theorem stream_drop:∀ (xs:List Nat) (i:Nat),(streamBits xs).drop (8*i)=streamBits (xs.drop i):=by
 intro xs
 induction xs with
 | nil=>intro i;simp [streamBits]
 | cons x xs ih=>
  intro i
  cases i with
  | zero=>rfl
  | succ i=>
   have:streamBits (x :: xs)=byteBits x++streamBits xs:=by simp [streamBits]
   rw [this,show 8*(i+1)=(byteBits x).length+8*i by rw [byteBits_len];omega,<- List.drop_drop,List.drop_left,ih]
   rfl
def seg (bs:List Bool)(s k:Nat):List Bool:=(bs.drop s).take k
theorem seg_len (bs:List Bool)(s k:Nat)(h:s+k<=bs.length):(seg bs s k).length=k:=by unfold seg;simp;omega
theorem seg_split (bs:List Bool)(s a b:Nat):seg bs s (a+b)=seg bs s a++seg bs (s+a) b:=by
 unfold seg
 rw [List.take_add,List.drop_drop]
theorem stream_seg (xs:List Nat)(i o t:Nat)(hi:i<xs.length)(h:o+t<=8):seg (streamBits xs) (8*i+o) t=((byteBits (xs.getD i 0)).drop o).take t:=by
 unfold seg
 rw [<- List.drop_drop,stream_drop,List.drop_eq_getElem_cons hi]
 have:streamBits (xs[i] :: xs.drop (i+1))=byteBits xs[i]++streamBits (xs.drop (i+1)):=by unfold streamBits;rw [List.flatMap_cons]
 rw [this,List.drop_append_of_le_length (by rw [byteBits_len];omega),List.take_append_of_le_length (by rw [List.length_drop,byteBits_len];omega)]
 simp [List.getD,List.getElem?_eq_getElem hi]
def rdBits (xs:List Nat)(s k:Nat):Nat:=bval (seg (streamBits xs) s k)
theorem rdBits_lt (xs:List Nat)(s k:Nat):rdBits xs s k<2 ^ k:=by
 refine Nat.lt_of_lt_of_le (bval_lt _) (Nat.pow_le_pow_right (by decide) ?_)
 unfold seg
 simp
 omega
theorem rdBits_split (xs:List Nat)(s a b:Nat)(h:s+a+b<=8*xs.length):rdBits xs s (a+b)=rdBits xs s a*2 ^ b+rdBits xs (s+a) b:=by
 unfold rdBits
 rw [seg_split,bval_append,seg_len _ _ _ (by rw [streamBits_len];omega)]
theorem rdBits_byte (xs:List Nat)(i o t:Nat)(hi:i<xs.length)(h:o+t<=8)(hx:xs.getD i 0<256):rdBits xs (8*i+o) t=xs.getD i 0/2 ^ (8-o-t)%2 ^ t:=by
 unfold rdBits
 rw [stream_seg xs i o t hi h,byte_seg _ _ _ hx h]
theorem rdBits_zero (xs:List Nat)(s:Nat):rdBits xs s 0=0:=by
 unfold rdBits seg
 simp [bval]
def alTab:List Nat:=[48,49,50,51,52,53,54,55,56,57,65,66,67,68,69,70,71,72,73,74,75,76,77,78,79,80,81,82,83,84,85,86,87,88,89,90,32,36,37,42,43,45,46,47,58]
def alCh (n:Nat):Int:=(alTab.getD n 0:Nat)
def numSeg (bs:List Nat)(pos cnt:Nat)(acc:List Int):Option (List Int×Nat) :=
 if 3<=cnt then
  if pos+10<=8*bs.length/\rdBits bs pos 10<1000 then numSeg bs (pos+10) (cnt-3) (acc++[48+((rdBits bs pos 10/100:Nat):Int)]++[48+((rdBits bs pos 10/10%10:Nat):Int)]++[48+((rdBits bs pos 10%10:Nat):Int)])
  else none
 else if cnt=2 then
  if pos+7<=8*bs.length/\rdBits bs pos 7<100 then some (acc++[48+((rdBits bs pos 7/10:Nat):Int)]++[48+((rdBits bs pos 7%10:Nat):Int)],pos+7) else none
 else if cnt=1 then
  if pos+4<=8*bs.length/\rdBits bs pos 4<10 then some (acc++[48+((rdBits bs pos 4:Nat):Int)],pos+4) else none
 else some (acc,pos)
termination_by cnt
def alSeg (bs:List Nat)(pos cnt:Nat)(acc:List Int):Option (List Int×Nat) :=
 if 2<=cnt then
  if pos+11<=8*bs.length/\rdBits bs pos 11/45<45 then alSeg bs (pos+11) (cnt-2) (acc++[alCh (rdBits bs pos 11/45)]++[alCh (rdBits bs pos 11%45)])
  else none
 else if cnt=1 then
  if pos+6<=8*bs.length/\rdBits bs pos 6<45 then some (acc++[alCh (rdBits bs pos 6)],pos+6) else none
 else some (acc,pos)
termination_by cnt
def byteSeg (bs:List Nat)(pos cnt:Nat):List Int:=(List.range cnt).map fun i=>(rdBits bs (pos+8*i) 8:Int)
def gs1:List Int->List Int
 | []=>[]
 | [x]=>[if x=37 then 29 else x]
 | x :: y :: l=>if x=37 then (if y=37 then 37 :: gs1 l else 29 :: gs1 (y :: l)) else x :: gs1 (y :: l)
def cntBits (mode v:Nat):Nat :=
 if mode=1 then (if v<=9 then 10 else if v<=26 then 12 else 14)
 else if mode=2 then (if v<=9 then 9 else if v<=26 then 11 else 13)
 else (if v<=9 then 8 else 16)
structure PS where
 pos:Nat
 out:List Int
 segs:List (List Int)
 fc:Bool
 sq:Int
 par:Int
def alOut (fc:Bool)(out ys:List Int):List Int:=if fc then out++gs1 (ys.drop out.length) else ys
inductive Rd (bs:List Nat)(v:Nat):PS->Option PS->Prop
 | done (st:PS):st.pos<=8*bs.length->8*bs.length<st.pos+4->Rd bs v st (some st)
 | stop (st:PS):st.pos+4<=8*bs.length->rdBits bs st.pos 4=0->Rd bs v st (some { st with pos:=st.pos+4 })
 | fnc (st:PS) (R:Option PS):st.pos+4<=8*bs.length->rdBits bs st.pos 4=5->Rd bs v { st with pos:=st.pos+4,fc:=true } R->Rd bs v st R
 | part (st:PS) (R:Option PS):st.pos+20<=8*bs.length->rdBits bs st.pos 4=3->Rd bs v { st with pos:=st.pos+20,sq:=rdBits bs (st.pos+4) 8,par:=rdBits bs (st.pos+12) 8 } R->Rd bs v st R
 | short (st:PS) (m:Nat):st.pos+4<=8*bs.length->rdBits bs st.pos 4=m->m=1\/m=2\/m=4->8*bs.length<st.pos+4+cntBits m v->Rd bs v st none
 | num (st:PS) (ys:List Int) (p:Nat) (R:Option PS):rdBits bs st.pos 4=1->st.pos+4+cntBits 1 v<=8*bs.length->
   numSeg bs (st.pos+4+cntBits 1 v) (rdBits bs (st.pos+4) (cntBits 1 v)) st.out=some (ys,p)->Rd bs v { st with pos:=p,out:=ys } R->Rd bs v st R
 | numBad (st:PS):rdBits bs st.pos 4=1->st.pos+4+cntBits 1 v<=8*bs.length->numSeg bs (st.pos+4+cntBits 1 v) (rdBits bs (st.pos+4) (cntBits 1 v)) st.out=none->Rd bs v st none
 | al (st:PS) (ys:List Int) (p:Nat) (R:Option PS):rdBits bs st.pos 4=2->st.pos+4+cntBits 2 v<=8*bs.length->
   alSeg bs (st.pos+4+cntBits 2 v) (rdBits bs (st.pos+4) (cntBits 2 v)) st.out=some (ys,p)->Rd bs v { st with pos:=p,out:=alOut st.fc st.out ys } R->Rd bs v st R
 | alBad (st:PS):rdBits bs st.pos 4=2->st.pos+4+cntBits 2 v<=8*bs.length->alSeg bs (st.pos+4+cntBits 2 v) (rdBits bs (st.pos+4) (cntBits 2 v)) st.out=none->Rd bs v st none
 | byte (st:PS) (n:Nat) (R:Option PS):rdBits bs st.pos 4=4->st.pos+4+cntBits 4 v<=8*bs.length->rdBits bs (st.pos+4) (cntBits 4 v)=n->st.pos+4+cntBits 4 v+8*n<=8*bs.length->
   Rd bs v { st with pos:=st.pos+4+cntBits 4 v+8*n,out:=st.out++byteSeg bs (st.pos+4+cntBits 4 v) n,segs:=st.segs++[byteSeg bs (st.pos+4+cntBits 4 v) n] } R->Rd bs v st R
 | byteBad (st:PS) (n:Nat):rdBits bs st.pos 4=4->st.pos+4+cntBits 4 v<=8*bs.length->rdBits bs (st.pos+4) (cntBits 4 v)=n->8*bs.length<st.pos+4+cntBits 4 v+8*n->Rd bs v st none
theorem ecbs_per (w:World)(g:Nat)(ec:Int)(h:w.cell? ⟨g,0,none⟩=some (.int .i64 ec)):Calls Tryz.prog 158 #[.pointer (some ⟨g,0,none⟩)] w fun e w'=>e=.returned (.int .i64 ec)/\w=w':=by
 go_enter Tryz.func158,Tryz.ntmps158
 go_wp2
 go_ret
 exact⟨rfl,rfl⟩
theorem ecbs_list (w:World)(g:Nat)(v:Value)(h:w.cell? ⟨g,1,none⟩=some v):Calls Tryz.prog 159 #[.pointer (some ⟨g,0,none⟩)] w fun e w'=>e=.returned v/\w=w':=by
 go_enter Tryz.func159,Tryz.ntmps159
 go_wp2
 go_ret
 exact⟨rfl,rfl⟩
theorem ver_num (w:World)(p:Nat)(v:Value)(h:w.cell? ⟨p,0,none⟩=some v):Calls Tryz.prog 41 #[.pointer (some ⟨p,0,none⟩)] w fun e w'=>e=.returned v/\w=w':=by
 go_enter Tryz.func41,Tryz.ntmps41
 go_wp2
 go_ret
 exact⟨rfl,rfl⟩
theorem ver_dim (w:World)(p:Nat)(n:Int)(h0:1<=n/\n<=40)(h:w.cell? ⟨p,0,none⟩=some (.int .i64 n)):Calls Tryz.prog 86 #[.pointer (some ⟨p,0,none⟩)] w fun e w'=>e=.returned (.int .i64 (17+4*n))/\w=w':=by
 obtain⟨h0,h1⟩:=h0
 go_enter Tryz.func86,Tryz.ntmps86
 go_wp2
 go_ret
 exact⟨rfl,rfl⟩
theorem ecb_count' (w:World)(a b:Int):Calls Tryz.prog 160 #[.agg #[.int .i64 a,.int .i64 b]] w fun e w'=>e=.returned (.int .i64 a)/\w'=w.alloc (.cells #[.int .i64 a,.int .i64 b] 221):=by
 go_enter Tryz.func160,Tryz.ntmps160
 go_wp2
 go_ret
 exact⟨rfl,rfl⟩
theorem ecb_words' (w:World)(a b:Int):Calls Tryz.prog 161 #[.agg #[.int .i64 a,.int .i64 b]] w fun e w'=>e=.returned (.int .i64 b)/\w'=w.alloc (.cells #[.int .i64 a,.int .i64 b] 221):=by
 go_enter Tryz.func161,Tryz.ntmps161
 go_wp2
 go_ret
 exact⟨rfl,rfl⟩
def ecbCells:List (Int×Int)->List Value
 | []=>[]
 | p :: L=>.int .i64 p.1 :: .int .i64 p.2 :: ecbCells L
def ecbTot (ec:Int)(L:List (Int×Int)):Nat->Int
 | 0=>0
 | n+1=>ecbTot ec L n+(L.getD n (0,0)).1*((L.getD n (0,0)).2+ec)
theorem ecbCells_at:∀ (L:List (Int×Int)) (n:Nat),n<L.length->(ecbCells L)[2*n]? = some (.int .i64 (L.getD n (0,0)).1)/\(ecbCells L)[2*n+1]? = some (.int .i64 (L.getD n (0,0)).2):=by
 intro L
 induction L with
 | nil=>intro n h;cases h
 | cons p L ih=>
  intro n h
  cases n with
  | zero=>exact⟨rfl,rfl⟩
  | succ n=>
   have:=ih n (by simpa using h)
   rw [show 2*(n+1)=2*n+1+1 by omega]
   simpa [ecbCells] using this
set_option maxHeartbeats 1000000 in
theorem newVer (w:World)(n ec:Int)(gc m ge g0:Nat)(k:Nat)(es:Array Value)(L:List (Int×Int))(hk:k=L.length)(hk2:L.length<=100)
  (he:Blk w ge 224 es) (h0:es[0]? = some (.int .i64 ec)) (h1:es[1]? = some (.slice (some ⟨g0,0,none⟩) k k)) (hg:Blk w g0 221 (ecbCells L).toArray)
  (hec:0<=ec/\ec<=100) (hL:∀ p∈L,0<=p.1/\p.1<=100/\0<=p.2/\p.2<=1000) :
  Calls Tryz.prog 143 #[.int .i64 n,.slice (some ⟨gc,0,none⟩) m m,.slice (some ⟨ge,0,none⟩) 4 4] w fun e w'=>∃ p,e=.returned (.pointer (some ⟨p,0,none⟩))/\w.heap.size<=p/\Below w.heap.size w w'/\
   Blk w' p 154 #[.int .i64 n,.slice (some ⟨gc,0,none⟩) m m,.slice (some ⟨ge,0,none⟩) 4 4,.int .i64 (ecbTot ec L L.length)]:=by
 have c0:w.cell? ⟨ge,0,none⟩=some (.int .i64 ec):=(he.cell 0).trans h0
 have c1:w.cell? ⟨ge,1,none⟩=some (.slice (some ⟨g0,0,none⟩) k k):=(he.cell 1).trans h1
 have HG:=Aside0.mk hg
 have HE:=Aside0.mk hec
 have HL:=Aside0.mk hL
 have HK:=Aside0.mk hk
 have k1:=ecbs_per w ge ec c0
 have k2:=ecbs_list w ge _ c1
 clear hg hec hL hk he h0 h1
 go_enter Tryz.func143,Tryz.ntmps143
 go_wp2_with (first | (go_at_call 158;refine k1.mono ?_;rintro e w' ⟨rfl,rfl⟩) | (go_at_call 159;refine k2.mono ?_;rintro e w' ⟨rfl,rfl⟩))
 clear k1 k2
 go_loopw [7,20] (fun tv v wr=>∃ i:Nat,∃ t:Int,i<=k/\v=.int .i64 (i:Int)/\tv=.int .i64 t/\0<=t/\t<=110000*i/\Aside0 (t=ecbTot ec L i)/\Aside0 (Below w.heap.size w wr)) (fun _ v _=>(k-intOf v).toNat)
 case atStart=>exact⟨0,0,Nat.zero_le _,rfl,rfl,by omega,by omega,⟨rfl⟩,⟨Below.refl _ _⟩⟩
 case round=>
  obtain⟨i,t,hi,rfl,rfl,ht0,ht1,HT,HB⟩:=hrel
  by_cases hlt:i<k
  ·have hgr:Blk wr g0 221 (ecbCells L).toArray:=HG.out.below HB.out HG.out.lt
   have hat:=ecbCells_at L i (by have:=HK.out;omega)
   obtain⟨c,d,hcd⟩:∃ c d,L.getD i (0,0)=(c,d):=⟨_,_,rfl⟩
   have hmem:L.getD i (0,0)∈L:=by
    have:i<L.length:=by have:=HK.out;omega
    simp [List.getD,List.getElem?_eq_getElem this]
   have hbd:=HL.out _ hmem
   rw [hcd] at hat hbd
   have hi100:i<100:=by have:=HK.out;omega
   replace hbd:0<=c/\c<=100/\0<=d/\d<=1000:=hbd
   obtain⟨e1,e2,e3,e4⟩:=hbd
   have d0:wr.cell? ⟨g0,i*2,none⟩=some (.int .i64 c):=(hgr.cell _).trans (by have:=hat.1;rw [Nat.mul_comm] at this;simpa using this)
   have d1:wr.cell? ⟨g0,i*2+1,none⟩=some (.int .i64 d):=(hgr.cell _).trans (by have:=hat.2;rw [Nat.mul_comm] at this;simpa using this)
   obtain⟨he1,he2⟩:=HE.out
   have m1:0<=c*(d+ec)/\c*(d+ec)<=110000:=by
    have a1:=Int.mul_nonneg e1 (show 0<=d+ec by omega)
    have a2:=Int.mul_le_mul e2 (show d+ec<=1100 by omega) (by omega) (by omega)
    omega
   obtain⟨q,hq⟩:∃ q,c*(d+ec)=q:=⟨_,rfl⟩
   rw [hq] at m1
   obtain⟨m1,m2⟩:=m1
   have w1:wrap64 (d+ec)=d+ec:=by unfold wrap64;omega
   have w2:wrap64 (c*(d+ec))=q:=by rw [hq];unfold wrap64;omega
   have w3:wrap64 (t+q)=t+q:=by unfold wrap64;omega
   have HM:=Aside0.mk hq
   have HC:=Aside0.mk hcd
   clear hq hcd hmem hat hgr c0 c1
   go_wp2
   go_region_with (first | (go_at_call 160;refine (ecb_count' _ c d).mono ?_;rintro e w' ⟨rfl,rfl⟩) | (go_at_call 161;refine (ecb_words' _ c d).mono ?_;rintro e w' ⟨rfl,rfl⟩))
   all_goals
    go_wp2
    go_roundw
    case rel=>exact⟨i+1,t+q,by omega,by go_num,by rw [w2,w3],by omega,by omega,⟨by rw [ecbTot,HC.out,<- HT.out,<- HM.out]⟩,⟨by repeat (first | exact HB.out | apply below_alloc | apply pw_below_drewN | apply below_drew1)⟩⟩
    case measure=>simp [intOf];omega
  ·have:i=k:=by omega
   subst this
   go_wp2
   go_ret
   refine⟨wr.heap.size,rfl,HB.out.size,below_alloc HB.out _,?_⟩
   rw [<- HK.out,<- HT.out]
   exact Blk.new _ _ _
end Go.Proofs.YtgccjgpdjkhpdaaGreat.B
