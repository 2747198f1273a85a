import Derived.Test.YtgccjgpdjkhpdaaGreatProg
import Derived.Below
import Derived.Deep.Draws
import Derived.Deep.AppendLies
import Derived.Maps.AppendAt
import Derived.OwnWalk
import Derived.Laws.BytesArg
import Derived.Laws.MakeOwn
import Derived.Laws.OwnMore
import Derived.Deep.OwnRows
import Derived.Tactics
import Derived.Lib.ConvBytes
import Derived.Laws.Slices
import Derived.WalkKit
import Derived.KernelRfl
import Derived.RowKit3
import Derived.Deep.LoopGhost
import Derived.Deep.QuietTactic
import Derived.BigQuiet
import Derived.WideLaws
import Derived.Deep.DeepCutAuto
import Derived.Deep.CutBlock
import Derived.Deep.RegionHeld3
import Derived.Laws.Rows
import Derived.Lib.AppendStr
import Derived.ArgAppend
import Derived.Laws.IdiomCopy
import Derived.OrdersHeld
import Derived.Laws.BitsLemmas
import Derived.RowKit
import Derived.Laws.StructEq
import Derived.Great.Frames
import Derived.Test.YtgccjgpdjkhpdaaGreatVCrop1
/-! Own texts of this claim, part 2. -/
namespace Go.Proofs.YtgccjgpdjkhpdaaGreat.F
open Go.RowKit Go.Proofs.YtgccjgpdjkhpdaaGreatW.PrintWords Go.Proofs.YtgccjgpdjkhpdaaGreatW.PrintLast Go.Proofs.YtgccjgpdjkhpdaaGreatW.PrintMore
attribute [local go_sem] max2_int min2_int max_two min_two max_three min_three max_four min_four
set_option linter.unusedVariables false
set_option linter.unusedSimpArgs false
def errW:Option Int->Value
 | none=>.nilIface
 | some c=>.iface 0 (.int .i64 c)
theorem errW_none:errW none=.nilIface:=rfl
theorem errW_some (c:Int):errW (some c)=.iface 0 (.int .i64 c):=rfl
theorem info3:(Tryz.prog.info? 3).map (fun i=>(i.zero,i.size,i.bytes))=some (some (.int .i64 0),1,8):=by kernel_rfl
theorem info4:(Tryz.prog.info? 4).map (fun i=>(i.zero,i.size,i.bytes))=some (some (.bool false),1,1):=by kernel_rfl
theorem info5:(Tryz.prog.info? 5).map (fun i=>(i.zero,i.size,i.bytes))=some (some (.int .u8 0),1,1):=by kernel_rfl
theorem info45:(Tryz.prog.info? 45).map (fun i=>(i.zero,i.size,i.bytes))=some (some (.slice none 0 0),1,24):=by kernel_rfl
def rd_L1 (xs:List (List Bool))(i:Int):(List Bool):=xs.getD i.toNat ([]:List Bool)
theorem at_L1 {w:World}{A:Option Addr}{n:Nat}{xs:List (List Bool)}(h:Kd.C (Kd.slice 4 Kd.bool) w A n xs)(i:Int)(h0:0<=i)(h1:i<n):∃ ad A0 c0,A=some ad/\w.cell? (ad.add i.toNat)=some (.slice A0 (rd_L1 xs i).length c0)/\(rd_L1 xs i).length<=c0/\Kd.bool.C w A0 (rd_L1 xs i).length (rd_L1 xs i):=by
 obtain⟨ad,c,e,_,hK,hc0⟩:=Kd.C_get h ([]:List Bool) i h0 h1
 have hc:∀ j u,c[j]? = some u->w.cell? (ad.add (i.toNat*1+j))=some u:=hc0
 obtain⟨A0,c0,rfl,l0,g0⟩:=hK
 exact⟨ad,A0,c0,e,by have hq:=hc 0 _ rfl;rwa [Nat.mul_one,Nat.add_zero] at hq,l0,g0⟩
structure S221 where
 f0:Int
 f1:Int
def k221:Kd S221:=Kd.iso (Kd.pair (Kd.int .i64) (Kd.int .i64)) (fun x:S221=>(x.f0,x.f1))
structure S224 where
 f0:Int
 f1:(List S221)
def k224:Kd S224:=Kd.iso (Kd.pair (Kd.int .i64) (Kd.slice 221 k221)) (fun x:S224=>(x.f0,x.f1))
def rd_L10 (xs:List (List Int))(i:Int):(List Int):=xs.getD i.toNat ([]:List Int)
theorem at_L10 {w:World}{A:Option Addr}{n:Nat}{xs:List (List Int)}(h:Kd.C (Kd.slice 5 (Kd.int .u8)) w A n xs)(i:Int)(h0:0<=i)(h1:i<n):∃ ad A0 c0,A=some ad/\w.cell? (ad.add i.toNat)=some (.slice A0 (rd_L10 xs i).length c0)/\(rd_L10 xs i).length<=c0/\(Kd.int .u8).C w A0 (rd_L10 xs i).length (rd_L10 xs i):=by
 obtain⟨ad,c,e,_,hK,hc0⟩:=Kd.C_get h ([]:List Int) i h0 h1
 have hc:∀ j u,c[j]? = some u->w.cell? (ad.add (i.toNat*1+j))=some u:=hc0
 obtain⟨A0,c0,rfl,l0,g0⟩:=hK
 exact⟨ad,A0,c0,e,by have hq:=hc 0 _ rfl;rwa [Nat.mul_one,Nat.add_zero] at hq,l0,g0⟩
structure S98 where
 f0:Int
 f1:(List Int)
def z98:S98:=⟨(0:Int),([]:List Int)⟩
def k98:Kd S98:=Kd.iso (Kd.pair (Kd.int .i64) (Kd.slice 5 (Kd.int .u8))) (fun x:S98=>(x.f0,x.f1))
theorem k98_open {w:World}{x:S98}{cs:List Value}(h:k98.K w x cs):∃ A1 c1,cs=[.int .i64 x.f0,.slice A1 x.f1.length c1]/\x.f1.length<=c1/\(Kd.int .u8).C w A1 x.f1.length x.f1:=by
 obtain⟨_,_,rfl,rfl,⟨A1,c1,rfl,l1,g1⟩⟩:=h
 exact⟨A1,c1,rfl,l1,g1⟩
theorem k98_mk (w:World)(x:S98){A1:Option Addr}{c1:Nat}(l1:x.f1.length<=c1)(g1:(Kd.int .u8).C w A1 x.f1.length x.f1):k98.K w x [.int .i64 x.f0,.slice A1 x.f1.length c1]:=⟨[.int .i64 x.f0],[.slice A1 x.f1.length c1],rfl,rfl,⟨A1,c1,rfl,l1,g1⟩⟩
theorem k98_mkM (w:World)(base:Nat)(ok:Nat->Prop)(x:S98){v1:Value}(g1:(Kd.int .u8).R 5 w base ok v1 x.f1):k98.M w base ok x [.int .i64 x.f0,v1]:=⟨[.int .i64 x.f0],[v1],rfl,rfl,⟨v1,rfl,g1⟩⟩
def rd_T98 (xs:List S98)(i:Int):S98:=xs.getD i.toNat z98
theorem at_T98 {w:World}{A:Option Addr}{n:Nat}{xs:List S98}(h:Kd.C k98 w A n xs)(i:Int)(h0:0<=i)(h1:i<n):∃ ad A1 c1,A=some ad/\w.cell? (ad.add (i.toNat*2))=some (.int .i64 (rd_T98 xs i).f0)/\w.cell? ⟨(ad.add (i.toNat*2)).block,(ad.add (i.toNat*2)).off+1,none⟩=some (.slice A1 (rd_T98 xs i).f1.length c1)/\(rd_T98 xs i).f1.length<=c1/\(Kd.int .u8).C w A1 (rd_T98 xs i).f1.length (rd_T98 xs i).f1:=by
 obtain⟨ad,c,e,_,hK,hc0⟩:=Kd.C_get h z98 i h0 h1
 have hc:∀ j u,c[j]? = some u->w.cell? (ad.add (i.toNat*2+j))=some u:=hc0
 obtain⟨A1,c1,rfl,l1,g1⟩:=k98_open hK
 exact⟨ad,A1,c1,e,hc 0 _ rfl,by rw [<- add_field _ _ 1 (by omega)];exact hc 1 _ rfl,l1,g1⟩
end Go.Proofs.YtgccjgpdjkhpdaaGreat.F
namespace Go.Proofs.YtgccjgpdjkhpdaaGreat.B
open Go.RowKit Go.Proofs.YtgccjgpdjkhpdaaGreatW.PrintWords Go.Proofs.YtgccjgpdjkhpdaaGreatW.PrintLast Go.Proofs.YtgccjgpdjkhpdaaGreatW.PrintMore
set_option linter.unusedVariables false
set_option linter.unusedSimpArgs false
def Blk (w:World)(g:Nat)(t:TypeId)(cs:Array Value):Prop:=w.heap[g]? = some (.cells cs t (0,0))
theorem Blk.cell {w:World}{g:Nat}{t:TypeId}{cs:Array Value}(h:Blk w g t cs)(i:Nat):w.cell? ⟨g,i,none⟩=cs[i]?:=blk_cell h i
theorem Blk.frozen {w:World}{g:Nat}{t:TypeId}{cs:Array Value}(h:Blk w g t cs)(i:Nat):w.frozen? ⟨g,i,none⟩=false:=blk_frozen h i
theorem Blk.lt {w:World}{g:Nat}{t:TypeId}{cs:Array Value}(h:Blk w g t cs):g<w.heap.size:=blk_lt h
theorem Blk.ucell {w:World}{g:Nat}{t:TypeId}{k:IntKind}{xs:List Int}(h:Blk w g t (nums k xs).toArray)(i:Int)(h0:0<=i)(h1:i<xs.length):w.cell? ⟨g,i.toNat,none⟩=some (.int k (rd xs i)):=by
 rw [h.cell]
 simp [nums,rd,List.getD,List.getElem?_eq_getElem (show i.toNat<xs.length by omega)]
theorem Blk.uset {w:World}{g:Nat}{t:TypeId}{k:IntKind}{xs:List Int}(h:Blk w g t (nums k xs).toArray)(i:Nat)(v:Int):Blk (w.setCell ⟨g,i,none⟩ (.int k v)) g t (nums k (xs.set i v)).toArray:=by
 have:=blk_set h i (.int k v)
 unfold Blk
 rw [this]
 simp [nums,List.map_set]
theorem Blk.far {w:World}{g:Nat}{t:TypeId}{cs:Array Value}(h:Blk w g t cs){p:Addr}(hp:g≠p.block)(u:Value):Blk (w.setCell p u) g t cs:=blk_far h hp u
theorem Blk.alloc {w:World}{g:Nat}{t:TypeId}{cs:Array Value}(h:Blk w g t cs)(o:Obj):Blk (w.alloc o) g t cs:=blk_alloc h o
theorem Blk.below {w w':World}{g:Nat}{t:TypeId}{cs:Array Value}{B:Nat}(h:Blk w g t cs)(hb:Below B w w')(hg:g<B):Blk w' g t cs:=(hb.block g hg).trans h
theorem Blk.new (w:World)(t:TypeId)(cs:Array Value):Blk (w.alloc (.cells cs t)) w.heap.size t cs:=heap_alloc_new w _
theorem info130u:(Tryz.prog.info? 214).map (fun i=>(i.zero,i.size,i.bytes))=some (some (.int .u32 0),1,4):=by kernel_rfl
theorem run_make_rowN {P:Program}(t e:TypeId)(i:TypeInfo)(z:Value)(ht:P.underlying t=some (.slice e))(hi:P.info? e=some i)(hz:i.zero=some z)
  (kl kc:IntKind) (n c:Nat) (hnc:n<=c) (hbytes:i.bytes*c<=281474976710656) (h63:c<=9223372036854775807) (w:World) :
  (Instr.makeSlice t (.int kl (n:Int)) (.int kc (c:Int))).run P w=.ok (.slice (some ⟨w.heap.size,0,none⟩) n c) (w.alloc (.cells (madeCells z.cells (c*i.size)) e)):=by
 have hb:(i.bytes:Int)*(c:Int)<=281474976710656:=by
  have h:((i.bytes*c:Nat):Int)<=281474976710656:=by omega
  rwa [Int.natCast_mul] at h
 have hr:=run_make (P:=P) w t e i z ht hi hz kl kc n c (by omega) (by omega) hb (by omega)
 simp only [Int.toNat_natCast] at hr
 exact hr
theorem make_u32 (n:Nat)(h:n<=1000000000)(w:World):(Instr.makeSlice 199 (.int .i64 (n:Int)) (.int .i64 (n:Int))).run Tryz.prog w=.ok (.slice (some ⟨w.heap.size,0,none⟩) n n) (w.alloc (.cells (nums .u32 (List.replicate n 0)).toArray 214)):=by
 obtain⟨i,hi,hz,hs,hb⟩:=info_parts info130u
 have:=run_make_rowN (P:=Tryz.prog) 199 214 i (.int .u32 0) Tryz.underlying199 hi hz .i64 .i64 n n (Nat.le_refl _) (by rw [hb];omega) (by omega) w
 have e:madeCells (Value.int .u32 0).cells (n*1)=(nums .u32 (List.replicate n 0)).toArray:=by
  apply Array.toList_inj.1
  rw [Nat.mul_one]
  exact (toList_madeCells_one _ _).trans (by simp [nums])
 rw [this,hs,e]
theorem newBM (w:World)(wd ht rs:Int)(N:Nat)(h1:1<=wd)(h2:1<=ht)(h3:wd<=100000000)(hrs:(wd+31)/32=rs)(hn:rs*ht=(N:Int))(hN:N<=1000000000) :
  Calls Tryz.prog 147 #[.int .i64 wd,.int .i64 ht] w fun e w'=>e=.returned (.tuple #[.pointer (some ⟨w.heap.size+1,0,none⟩),.nilIface])/\
   w'=(w.alloc (.cells (nums .u32 (List.replicate N 0)).toArray 214)).alloc (.cells #[.int .i64 wd,.int .i64 ht,.int .i64 rs,.slice (some ⟨w.heap.size,0,none⟩) N N] 201):=by
 have hmk:=make_u32 N hN
 have a1:¬ wd<1:=by omega
 have a2:¬ ht<1:=by omega
 have a3:wrap64 (rs*ht)=(N:Int):=by rw [hn];unfold wrap64;omega
 go_enter Tryz.func147,Tryz.ntmps147
 go_wp2
 go_ret2
 exact⟨rfl,rfl⟩
structure Turn (w w':World)(gb:Nat):Prop where
 os:w'.os=w.os
 tape:w'.tape=w.tape
 output:w'.output=w.output
 size:w'.heap.size=w.heap.size
 block:∀ k,k≠gb->w'.heap[k]? = w.heap[k]?
theorem Turn.refl (w:World)(gb:Nat):Turn w w gb:=⟨rfl,rfl,rfl,rfl,fun _ _=>rfl⟩
theorem Turn.trans {a b c:World}{gb:Nat}(h:Turn a b gb)(k:Turn b c gb):Turn a c gb:=⟨k.os.trans h.os,k.tape.trans h.tape,k.output.trans h.output,k.size.trans h.size,fun i hi=>(k.block i hi).trans (h.block i hi)⟩
theorem Turn.set (w:World)(gb i:Nat)(u:Value):Turn w (w.setCell ⟨gb,i,none⟩ u) gb:=⟨rfl,rfl,rfl,by simp [World.setCell],fun k hk=>Below.heap_setCell w _ u k hk⟩
theorem Turn.blk {w w':World}{gb g:Nat}{t:TypeId}{cs:Array Value}(h:Turn w w' gb)(hb:Blk w g t cs)(hne:g≠gb):Blk w' g t cs:=(h.block g hne).trans hb
theorem Turn.below {w w':World}{gb B:Nat}(h:Turn w w' gb)(hB:B<=gb):Below B w w':=⟨h.os,h.tape,h.output,by rw [h.size];exact Nat.le_refl _,fun k hk=>h.block k (by omega)⟩
def orBit (xs:List Int)(o x:Int):List Int:=xs.set (o+x/32).toNat (Go.bits .or .u32 (rd xs (o+x/32)) (2 ^ (x%32).toNat%4294967296))
def sregX (xs:List Int)(o left:Int):Nat->List Int
 | 0=>xs
 | n+1=>orBit (sregX xs o left n) o (left+n)
def sreg (xs:List Int)(rs left:Int)(n:Nat)(top:Int):Nat->List Int
 | 0=>xs
 | m+1=>sregX (sreg xs rs left n top m) ((top+m)*rs) left n
theorem orBit_length (xs:List Int)(o x:Int):(orBit xs o x).length=xs.length:=by simp [orBit]
theorem sregX_length (xs:List Int)(o left:Int)(n:Nat):(sregX xs o left n).length=xs.length:=by
 induction n with
 | zero=>rfl
 | succ n ih=>rw [sregX,orBit_length,ih]
theorem sreg_length (xs:List Int)(rs left:Int)(n:Nat)(top:Int)(m:Nat):(sreg xs rs left n top m).length=xs.length:=by
 induction m with
 | zero=>rfl
 | succ m ih=>rw [sreg,sregX_length,ih]
theorem sregX_step (xs:List Int)(o left x:Int)(h:left<=x):sregX xs o left (x+1-left).toNat=orBit (sregX xs o left (x-left).toNat) o x:=by
 rw [show (x+1-left).toNat=(x-left).toNat+1 by omega,sregX,show left+((x-left).toNat:Int)=x by omega]
theorem sreg_step (xs:List Int)(rs left:Int)(n:Nat)(top y:Int)(h:top<=y):sreg xs rs left n top (y+1-top).toNat=sregX (sreg xs rs left n top (y-top).toNat) (y*rs) left n:=by
 rw [show (y+1-top).toNat=(y-top).toNat+1 by omega,sreg,show top+((y-top).toNat:Int)=y by omega]
set_option maxHeartbeats 1000000 in
theorem setRegion (w:World)(g gb:Nat)(wd ht rs left top n m:Int)(xs:List Int)(N:Nat)
  (hg:Blk w g 201 #[.int .i64 wd,.int .i64 ht,.int .i64 rs,.slice (some ⟨gb,0,none⟩) N N]) (hb:Blk w gb 214 (nums .u32 xs).toArray) (hl:xs.length=N) (hN:N<=1000000000)
  (hrs:(wd+31)/32=rs) (hn:rs*ht=(N:Int)) (h0:0<=left) (h1:0<=top) (h2:1<=n) (h3:1<=m) (h4:left+n<=wd) (h5:top+m<=ht) (h6:wd<=100000000) (h7:ht<=100000000) :
  Calls Tryz.prog 142 #[.pointer (some ⟨g,0,none⟩),.int .i64 left,.int .i64 top,.int .i64 n,.int .i64 m] w fun e w'=>e=.returned .nilIface/\
   Blk w' gb 214 (nums .u32 (sreg xs rs left n.toNat top m.toNat)).toArray/\Turn w w' gb:=by
 have hne:g≠gb:=blk_ne hg hb (by decide)
 have c0:w.cell? ⟨g,0,none⟩=some (.int .i64 wd):=hg.cell 0
 have c1:w.cell? ⟨g,1,none⟩=some (.int .i64 ht):=hg.cell 1
 have HG:=Aside0.mk hg
 have HB:=Aside0.mk hb
 have HL:=Aside0.mk hl
 have HN:=Aside0.mk hn
 have HR:=Aside0.mk hrs
 clear hg hb hl hn hrs
 go_enter Tryz.func142,Tryz.ntmps142
 go_wp2
 go_loopw [13] (fun v wr=>∃ y:Int,top<=y/\y<=top+m/\v=.int .i64 y/\Aside0 (Blk wr gb 214 (nums .u32 (sreg xs rs left n.toNat top (y-top).toNat)).toArray)/\Aside0 (Turn w wr gb)) (fun v _=>(top+m-intOf v).toNat)
 case atStart=>exact⟨top,by omega,by omega,rfl,⟨by rw [show (top-top).toNat=0 by omega];exact HB.out⟩,⟨Turn.refl _ _⟩⟩
 case round=>
  obtain⟨y,hy1,hy2,rfl,HY,HT⟩:=hrel
  clear c0 c1
  by_cases hlt:y<top+m
  ·have hgr:=HT.out.blk HG.out hne
   have c2:wr.cell? ⟨g,2,none⟩=some (.int .i64 rs):=hgr.cell 2
   clear hgr
   obtain⟨o,ho⟩:∃ o,y*rs=o:=⟨_,rfl⟩
   have ho1:0<=o/\o+rs<=N:=by
    have hr0:0<=rs:=by have:=HR.out;omega
    have hq:=HN.out
    have e1:=Int.mul_le_mul_of_nonneg_right (show y+1<=ht by omega) hr0
    have e2:(y+1)*rs=y*rs+rs:=by rw [Int.add_mul,Int.one_mul]
    have e3:ht*rs=rs*ht:=Int.mul_comm _ _
    have e4:=Int.mul_nonneg (show 0<=y by omega) hr0
    omega
   obtain⟨ho1,ho2⟩:=ho1
   have hr0:0<=rs:=by have:=HR.out;omega
   have how:wrap64 (y*rs)=o:=by rw [ho];unfold wrap64;omega
   have HO:=Aside0.mk ho
   clear ho
   obtain⟨ys,hys⟩:∃ ys,sreg xs rs left n.toNat top (y-top).toNat=ys:=⟨_,rfl⟩
   have hyl:ys.length=N:=by rw [<- hys,sreg_length,HL.out]
   rw [hys] at HY
   have HYS:=Aside0.mk hys
   have HYL:=Aside0.mk hyl
   clear hys hyl
   go_wp2
   obtain⟨wo,rfl⟩:∃ wo:World,wo=wr:=⟨_,rfl⟩
   clear c2
   go_loopw [15] (fun v wi=>∃ x:Int,left<=x/\x<=left+n/\v=.int .i64 x/\Aside0 (Blk wi gb 214 (nums .u32 (sregX ys o left (x-left).toNat)).toArray)/\Aside0 (Turn wo wi gb)) (fun v _=>(left+n-intOf v).toNat)
   case atStart=>exact⟨left,by omega,by omega,rfl,⟨by rw [show (left-left).toNat=0 by omega];exact HY.out⟩,⟨Turn.refl _ _⟩⟩
   case round=>
    obtain⟨x,hx1,hx2,rfl,HX,HU⟩:=hrel
    by_cases hlx:x<left+n
    ·have hgr:=HU.out.blk (HT.out.blk HG.out hne) hne
     have c3:wr.cell? ⟨g,3,none⟩=some (.slice (some ⟨gb,0,none⟩) N N):=hgr.cell 3
     clear hgr
     obtain⟨zs,hzs⟩:∃ zs,sregX ys o left (x-left).toNat=zs:=⟨_,rfl⟩
     have hzl:zs.length=N:=by rw [<- hzs,sregX_length,HYL.out]
     rw [hzs] at HX
     have b0:0<=o+x/32:=by omega
     have b1:o+x/32<(N:Int):=by have:=HR.out;omega
     have c4:wr.cell? ⟨gb,(o+x/32).toNat,none⟩=some (.int .u32 (rd zs (o+x/32))):=HX.out.ucell _ b0 (by omega)
     have c5:=HX.out.frozen (o+x/32).toNat
     have HZ:=Aside0.mk hzs
     clear hzs hzl
     go_wp2
     go_roundw
     case rel=>exact⟨x+1,by omega,by omega,by go_num,⟨by rw [sregX_step _ _ _ _ hx1,HZ.out];exact HX.out.uset _ _⟩,⟨HU.out.trans (Turn.set _ _ _ _)⟩⟩
     case measure=>simp [intOf];omega
    ·have:x=left+n:=by omega
     subst this
     go_wp2
     go_roundw
     case rel=>exact⟨y+1,by omega,by omega,by go_num,⟨by rw [sreg_step _ _ _ _ _ _ hy1,HYS.out,HO.out];have:=HX.out;rwa [show (left+n-left).toNat=n.toNat by omega] at this⟩,⟨HT.out.trans HU.out⟩⟩
     case measure=>simp [intOf];omega
  ·have:y=top+m:=by omega
   subst this
   go_wp2
   go_ret
   refine⟨rfl,?_,HT.out⟩
   have:=HY.out
   rwa [show (top+m-top).toNat=m.toNat by omega] at this
theorem ecbs_per (w:World)(g:Nat)(ec:Int)(h:w.cell? ⟨g,0,none⟩=some (.int .i64 ec)):Calls Tryz.prog 158 #[.pointer (some ⟨g,0,none⟩)] w fun e w'=>e=.returned (.int .i64 ec)/\w=w':=by
 go_enter Tryz.func158,Tryz.ntmps158
 go_wp2
 go_ret
 exact⟨rfl,rfl⟩
theorem ecbs_list (w:World)(g:Nat)(v:Value)(h:w.cell? ⟨g,1,none⟩=some v):Calls Tryz.prog 159 #[.pointer (some ⟨g,0,none⟩)] w fun e w'=>e=.returned v/\w=w':=by
 go_enter Tryz.func159,Tryz.ntmps159
 go_wp2
 go_ret
 exact⟨rfl,rfl⟩
theorem ver_num (w:World)(p:Nat)(v:Value)(h:w.cell? ⟨p,0,none⟩=some v):Calls Tryz.prog 41 #[.pointer (some ⟨p,0,none⟩)] w fun e w'=>e=.returned v/\w=w':=by
 go_enter Tryz.func41,Tryz.ntmps41
 go_wp2
 go_ret
 exact⟨rfl,rfl⟩
theorem ver_dim (w:World)(p:Nat)(n:Int)(h0:1<=n/\n<=40)(h:w.cell? ⟨p,0,none⟩=some (.int .i64 n)):Calls Tryz.prog 86 #[.pointer (some ⟨p,0,none⟩)] w fun e w'=>e=.returned (.int .i64 (17+4*n))/\w=w':=by
 obtain⟨h0,h1⟩:=h0
 go_enter Tryz.func86,Tryz.ntmps86
 go_wp2
 go_ret
 exact⟨rfl,rfl⟩
theorem ecb_count' (w:World)(a b:Int):Calls Tryz.prog 160 #[.agg #[.int .i64 a,.int .i64 b]] w fun e w'=>e=.returned (.int .i64 a)/\w'=w.alloc (.cells #[.int .i64 a,.int .i64 b] 221):=by
 go_enter Tryz.func160,Tryz.ntmps160
 go_wp2
 go_ret
 exact⟨rfl,rfl⟩
theorem ecb_words' (w:World)(a b:Int):Calls Tryz.prog 161 #[.agg #[.int .i64 a,.int .i64 b]] w fun e w'=>e=.returned (.int .i64 b)/\w'=w.alloc (.cells #[.int .i64 a,.int .i64 b] 221):=by
 go_enter Tryz.func161,Tryz.ntmps161
 go_wp2
 go_ret
 exact⟨rfl,rfl⟩
def ecbCells:List (Int×Int)->List Value
 | []=>[]
 | p :: L=>.int .i64 p.1 :: .int .i64 p.2 :: ecbCells L
def ecbTot (ec:Int)(L:List (Int×Int)):Nat->Int
 | 0=>0
 | n+1=>ecbTot ec L n+(L.getD n (0,0)).1*((L.getD n (0,0)).2+ec)
theorem ecbCells_at:∀ (L:List (Int×Int)) (n:Nat),n<L.length->(ecbCells L)[2*n]? = some (.int .i64 (L.getD n (0,0)).1)/\(ecbCells L)[2*n+1]? = some (.int .i64 (L.getD n (0,0)).2):=by
 intro L
 induction L with
 | nil=>intro n h;cases h
 | cons p L ih=>
  intro n h
  cases n with
  | zero=>exact⟨rfl,rfl⟩
  | succ n=>
   have:=ih n (by simpa using h)
   rw [show 2*(n+1)=2*n+1+1 by omega]
   simpa [ecbCells] using this
set_option maxHeartbeats 1000000 in
theorem newVer (w:World)(n ec:Int)(gc m ge g0:Nat)(k:Nat)(es:Array Value)(L:List (Int×Int))(hk:k=L.length)(hk2:L.length<=100)
  (he:Blk w ge 224 es) (h0:es[0]? = some (.int .i64 ec)) (h1:es[1]? = some (.slice (some ⟨g0,0,none⟩) k k)) (hg:Blk w g0 221 (ecbCells L).toArray)
  (hec:0<=ec/\ec<=100) (hL:∀ p∈L,0<=p.1/\p.1<=100/\0<=p.2/\p.2<=1000) :
  Calls Tryz.prog 143 #[.int .i64 n,.slice (some ⟨gc,0,none⟩) m m,.slice (some ⟨ge,0,none⟩) 4 4] w fun e w'=>∃ p,e=.returned (.pointer (some ⟨p,0,none⟩))/\w.heap.size<=p/\Below w.heap.size w w'/\
   Blk w' p 154 #[.int .i64 n,.slice (some ⟨gc,0,none⟩) m m,.slice (some ⟨ge,0,none⟩) 4 4,.int .i64 (ecbTot ec L L.length)]:=by
 have c0:w.cell? ⟨ge,0,none⟩=some (.int .i64 ec):=(he.cell 0).trans h0
 have c1:w.cell? ⟨ge,1,none⟩=some (.slice (some ⟨g0,0,none⟩) k k):=(he.cell 1).trans h1
 have HG:=Aside0.mk hg
 have HE:=Aside0.mk hec
 have HL:=Aside0.mk hL
 have HK:=Aside0.mk hk
 have k1:=ecbs_per w ge ec c0
 have k2:=ecbs_list w ge _ c1
 clear hg hec hL hk he h0 h1
 go_enter Tryz.func143,Tryz.ntmps143
 go_wp2_with (first | (go_at_call 158;refine k1.mono ?_;rintro e w' ⟨rfl,rfl⟩) | (go_at_call 159;refine k2.mono ?_;rintro e w' ⟨rfl,rfl⟩))
 clear k1 k2
 go_loopw [7,20] (fun tv v wr=>∃ i:Nat,∃ t:Int,i<=k/\v=.int .i64 (i:Int)/\tv=.int .i64 t/\0<=t/\t<=110000*i/\Aside0 (t=ecbTot ec L i)/\Aside0 (Below w.heap.size w wr)) (fun _ v _=>(k-intOf v).toNat)
 case atStart=>exact⟨0,0,Nat.zero_le _,rfl,rfl,by omega,by omega,⟨rfl⟩,⟨Below.refl _ _⟩⟩
 case round=>
  obtain⟨i,t,hi,rfl,rfl,ht0,ht1,HT,HB⟩:=hrel
  by_cases hlt:i<k
  ·have hgr:Blk wr g0 221 (ecbCells L).toArray:=HG.out.below HB.out HG.out.lt
   have hat:=ecbCells_at L i (by have:=HK.out;omega)
   obtain⟨c,d,hcd⟩:∃ c d,L.getD i (0,0)=(c,d):=⟨_,_,rfl⟩
   have hmem:L.getD i (0,0)∈L:=by
    have:i<L.length:=by have:=HK.out;omega
    simp [List.getD,List.getElem?_eq_getElem this]
   have hbd:=HL.out _ hmem
   rw [hcd] at hat hbd
   have hi100:i<100:=by have:=HK.out;omega
   replace hbd:0<=c/\c<=100/\0<=d/\d<=1000:=hbd
   obtain⟨e1,e2,e3,e4⟩:=hbd
   have d0:wr.cell? ⟨g0,i*2,none⟩=some (.int .i64 c):=(hgr.cell _).trans (by have:=hat.1;rw [Nat.mul_comm] at this;simpa using this)
   have d1:wr.cell? ⟨g0,i*2+1,none⟩=some (.int .i64 d):=(hgr.cell _).trans (by have:=hat.2;rw [Nat.mul_comm] at this;simpa using this)
   obtain⟨he1,he2⟩:=HE.out
   have m1:0<=c*(d+ec)/\c*(d+ec)<=110000:=by
    have a1:=Int.mul_nonneg e1 (show 0<=d+ec by omega)
    have a2:=Int.mul_le_mul e2 (show d+ec<=1100 by omega) (by omega) (by omega)
    omega
   obtain⟨q,hq⟩:∃ q,c*(d+ec)=q:=⟨_,rfl⟩
   rw [hq] at m1
   obtain⟨m1,m2⟩:=m1
   have w1:wrap64 (d+ec)=d+ec:=by unfold wrap64;omega
   have w2:wrap64 (c*(d+ec))=q:=by rw [hq];unfold wrap64;omega
   have w3:wrap64 (t+q)=t+q:=by unfold wrap64;omega
   have HM:=Aside0.mk hq
   have HC:=Aside0.mk hcd
   clear hq hcd hmem hat hgr c0 c1
   go_wp2
   go_region_with (first | (go_at_call 160;refine (ecb_count' _ c d).mono ?_;rintro e w' ⟨rfl,rfl⟩) | (go_at_call 161;refine (ecb_words' _ c d).mono ?_;rintro e w' ⟨rfl,rfl⟩))
   all_goals
    go_wp2
    go_roundw
    case rel=>exact⟨i+1,t+q,by omega,by go_num,by rw [w2,w3],by omega,by omega,⟨by rw [ecbTot,HC.out,<- HT.out,<- HM.out]⟩,⟨by repeat (first | exact HB.out | apply below_alloc | apply pw_below_drewN | apply below_drew1)⟩⟩
    case measure=>simp [intOf];omega
  ·have:i=k:=by omega
   subst this
   go_wp2
   go_ret
   refine⟨wr.heap.size,rfl,HB.out.size,below_alloc HB.out _,?_⟩
   rw [<- HK.out,<- HT.out]
   exact Blk.new _ _ _
theorem wpList_build {P:Program}{ops:Array Oper}{rest:List Oper}{o:Oper}{a:Act}{Q:Exit->Act->World->Prop}{W W':World}(hgd:o.guard=none)(t:TypeId)(len:Nat)(parts:Array (Nat×Operand))(ho:o.op=.buildSlice t len parts)
  (vals:Array (Nat×Value)) (hv:(parts.map fun p=>(p.1,a.eval p.2))=vals) (v:Value) (hrun:(Instr.buildSlice t len vals).run P W=.ok v W') (k:wpList P ops Q rest (a.put o.dst v) W'):wpList P ops Q (o :: rest) a W:=by
 refine wpList_plain hgd fun K hK=>?_
 subst hv
 unfold Oper.wp
 have e:(execOp a.eval o).run P W=.ok (.value v) W':=by
  unfold execOp
  rw [ho]
  simp only [Sem.run_bind]
  show Result.andThen ((Instr.buildSlice t len (parts.map fun p=>(p.1,a.eval p.2))).run P W) _=_
  rw [hrun]
  rfl
 rw [e]
 exact hK _ _ k
theorem wpList_buildV {P:Program}{ops:Array Oper}{rest:List Oper}{o:Oper}{a:Act}{Q:Exit->Act->World->Prop}{W W':World}(hgd:o.guard=none)(t:TypeId)(parts:Array (Nat×Operand))(ho:o.op=.build t parts)
  (vals:Array (Nat×Value)) (hv:(parts.map fun p=>(p.1,a.eval p.2))=vals) (v:Value) (hrun:(Instr.build t vals).run P W=.ok v W') (k:wpList P ops Q rest (a.put o.dst v) W'):wpList P ops Q (o :: rest) a W:=by
 refine wpList_plain hgd fun K hK=>?_
 subst hv
 unfold Oper.wp
 have e:(execOp a.eval o).run P W=.ok (.value v) W':=by
  unfold execOp
  rw [ho]
  simp only [Sem.run_bind]
  show Result.andThen ((Instr.build t (parts.map fun p=>(p.1,a.eval p.2))).run P W) _=_
  rw [hrun]
  rfl
 rw [e]
 exact hK _ _ k
theorem wpList_assign {P:Program}{ops:Array Oper}{rest:List Oper}{o:Oper}{a:Act}{Q:Exit->Act->World->Prop}{W:World}(hgd:o.guard=none)(x:Operand)(ho:o.op=.assign x)(k:wpList P ops Q rest (a.put o.dst (a.eval x)) W):wpList P ops Q (o :: rest) a W:=by
 refine wpList_plain hgd fun K hK=>?_
 unfold Oper.wp
 have e:(execOp a.eval o).run P W=.ok (.value (a.eval x)) W:=by
  unfold execOp
  rw [ho]
  rfl
 rw [e]
 exact hK _ _ k
theorem wpList_move {P:Program}{ops:Array Oper}{rest:List Oper}{o:Oper}{a:Act}{Q:Exit->Act->World->Prop}{W:World}(hgd:o.guard=none)(x:Operand)(ho:o.op=.move x)(k:wpList P ops Q rest (a.put o.dst (a.eval x)) W):wpList P ops Q (o :: rest) a W:=by
 refine wpList_plain hgd fun K hK=>?_
 unfold Oper.wp
 have e:(execOp a.eval o).run P W=.ok (.value (a.eval x)) W:=by
  unfold execOp
  rw [ho]
  rfl
 rw [e]
 exact hK _ _ k
theorem wpList_eqlC {ops:Array Oper}{rest:List Oper}{o:Oper}{a:Act}{Q:Exit->Act->World->Prop}{W:World}(hgd:o.guard=none)(x:Operand)(n k:Int)(ho:o.op=.binOp .eql 3 x (.const (.int .i64 k)) 3)(hx:a.eval x=.int .i64 n)
  (h:wpList Tryz.prog ops Q rest (a.put o.dst (.bool (n==k))) W):wpList Tryz.prog ops Q (o :: rest) a W:=by
 refine wpList_plain hgd fun K hK=>?_
 unfold Oper.wp
 have e:(execOp a.eval o).run Tryz.prog W=.ok (.value (.bool (n==k))) W:=by
  unfold execOp
  rw [ho]
  simp only [hx]
  have hc:a.eval (.const (.int .i64 k))=.int .i64 k:=rfl
  rw [hc]
  first | done | rfl | trace_state
 rw [e]
 exact hK _ _ h
theorem run_ecb (c d:Int)(W:World):(Instr.build 221 #[(0,.int .i64 c),(1,.int .i64 d)]).run Tryz.prog W=.ok (.agg #[.int .i64 c,.int .i64 d]) W:=by
 first | kernel_rfl | rfl
theorem run_ecbs1 (c d:Int)(W:World):(Instr.buildSlice 222 1 #[(0,.agg #[.int .i64 c,.int .i64 d])]).run Tryz.prog W=.ok (.slice (some ⟨W.heap.size,0,none⟩) 1 1) (W.alloc (.cells #[.int .i64 c,.int .i64 d] 221)):=by
 first | kernel_rfl | rfl
theorem run_ecbs2 (c d e f:Int)(W:World):(Instr.buildSlice 222 2 #[(0,.agg #[.int .i64 c,.int .i64 d]),(1,.agg #[.int .i64 e,.int .i64 f])]).run Tryz.prog W=.ok (.slice (some ⟨W.heap.size,0,none⟩) 2 2) (W.alloc (.cells #[.int .i64 c,.int .i64 d,.int .i64 e,.int .i64 f] 221)):=by
 first | kernel_rfl | rfl
theorem run_blk (ec:Int)(g m:Nat)(W:World):(Instr.build 224 #[(0,.int .i64 ec),(1,.slice (some ⟨g,0,none⟩) m m)]).run Tryz.prog W=.ok (.agg #[.int .i64 ec,.slice (some ⟨g,0,none⟩) m m]) W:=by
 first | kernel_rfl | rfl
theorem run_blks (e0 e1 e2 e3:Int)(g0 g1 g2 g3 m0 m1 m2 m3:Nat)(W:World):(Instr.buildSlice 152 4 #[(0,.agg #[.int .i64 e0,.slice (some ⟨g0,0,none⟩) m0 m0]),(1,.agg #[.int .i64 e1,.slice (some ⟨g1,0,none⟩) m1 m1]),(2,.agg #[.int .i64 e2,.slice (some ⟨g2,0,none⟩) m2 m2]),(3,.agg #[.int .i64 e3,.slice (some ⟨g3,0,none⟩) m3 m3])]).run Tryz.prog W=.ok (.slice (some ⟨W.heap.size,0,none⟩) 4 4)
  (W.alloc (.cells #[.int .i64 e0,.slice (some ⟨g0,0,none⟩) m0 m0,.int .i64 e1,.slice (some ⟨g1,0,none⟩) m1 m1,.int .i64 e2,.slice (some ⟨g2,0,none⟩) m2 m2,.int .i64 e3,.slice (some ⟨g3,0,none⟩) m3 m3] 224)):=by
 first | kernel_rfl | rfl
abbrev VerRow:=List Int×List (Int×List (Int×Int))
def verTab:List VerRow :=
 [([],[(7,[(1,19)]),(10,[(1,16)]),(13,[(1,13)]),(17,[(1,9)])]),
  ([6,18],[(10,[(1,34)]),(16,[(1,28)]),(22,[(1,22)]),(28,[(1,16)])]),
  ([6,22],[(15,[(1,55)]),(26,[(1,44)]),(18,[(2,17)]),(22,[(2,13)])]),
  ([6,26],[(20,[(1,80)]),(18,[(2,32)]),(26,[(2,24)]),(16,[(4,9)])]),
  ([6,30],[(26,[(1,108)]),(24,[(2,43)]),(18,[(2,15),(2,16)]),(22,[(2,11),(2,12)])]),
  ([6,34],[(18,[(2,68)]),(16,[(4,27)]),(24,[(4,19)]),(28,[(4,15)])]),
  ([6,22,38],[(20,[(2,78)]),(18,[(4,31)]),(18,[(2,14),(4,15)]),(26,[(4,13),(1,14)])]),
  ([6,24,42],[(24,[(2,97)]),(22,[(2,38),(2,39)]),(22,[(4,18),(2,19)]),(26,[(4,14),(2,15)])]),
  ([6,26,46],[(30,[(2,116)]),(22,[(3,36),(2,37)]),(20,[(4,16),(4,17)]),(24,[(4,12),(4,13)])]),
  ([6,28,50],[(18,[(2,68),(2,69)]),(26,[(4,43),(1,44)]),(24,[(6,19),(2,20)]),(28,[(6,15),(2,16)])]),
  ([6,30,54],[(20,[(4,81)]),(30,[(1,50),(4,51)]),(28,[(4,22),(4,23)]),(24,[(3,12),(8,13)])]),
  ([6,32,58],[(24,[(2,92),(2,93)]),(22,[(6,36),(2,37)]),(26,[(4,20),(6,21)]),(28,[(7,14),(4,15)])]),
  ([6,34,62],[(26,[(4,107)]),(22,[(8,37),(1,38)]),(24,[(8,20),(4,21)]),(22,[(12,11),(4,12)])]),
  ([6,26,46,66],[(30,[(3,115),(1,116)]),(24,[(4,40),(5,41)]),(20,[(11,16),(5,17)]),(24,[(11,12),(5,13)])]),
  ([6,26,48,70],[(22,[(5,87),(1,88)]),(24,[(5,41),(5,42)]),(30,[(5,24),(7,25)]),(24,[(11,12),(7,13)])]),
  ([6,26,50,74],[(24,[(5,98),(1,99)]),(28,[(7,45),(3,46)]),(24,[(15,19),(2,20)]),(30,[(3,15),(13,16)])]),
  ([6,30,54,78],[(28,[(1,107),(5,108)]),(28,[(10,46),(1,47)]),(28,[(1,22),(15,23)]),(28,[(2,14),(17,15)])]),
  ([6,30,56,82],[(30,[(5,120),(1,121)]),(26,[(9,43),(4,44)]),(28,[(17,22),(1,23)]),(28,[(2,14),(19,15)])]),
  ([6,30,58,86],[(28,[(3,113),(4,114)]),(26,[(3,44),(11,45)]),(26,[(17,21),(4,22)]),(26,[(9,13),(16,14)])]),
  ([6,34,62,90],[(28,[(3,107),(5,108)]),(26,[(3,41),(13,42)]),(30,[(15,24),(5,25)]),(28,[(15,15),(10,16)])]),
  ([6,28,50,72,94],[(28,[(4,116),(4,117)]),(26,[(17,42)]),(28,[(17,22),(6,23)]),(30,[(19,16),(6,17)])]),
  ([6,26,50,74,98],[(28,[(2,111),(7,112)]),(28,[(17,46)]),(30,[(7,24),(16,25)]),(24,[(34,13)])]),
  ([6,30,54,78,102],[(30,[(4,121),(5,122)]),(28,[(4,47),(14,48)]),(30,[(11,24),(14,25)]),(30,[(16,15),(14,16)])]),
  ([6,28,54,80,106],[(30,[(6,117),(4,118)]),(28,[(6,45),(14,46)]),(30,[(11,24),(16,25)]),(30,[(30,16),(2,17)])]),
  ([6,32,58,84,110],[(26,[(8,106),(4,107)]),(28,[(8,47),(13,48)]),(30,[(7,24),(22,25)]),(30,[(22,15),(13,16)])]),
  ([6,30,58,86,114],[(28,[(10,114),(2,115)]),(28,[(19,46),(4,47)]),(28,[(28,22),(6,23)]),(30,[(33,16),(4,17)])]),
  ([6,34,62,90,118],[(30,[(8,122),(4,123)]),(28,[(22,45),(3,46)]),(30,[(8,23),(26,24)]),(30,[(12,15),(28,16)])]),
  ([6,26,50,74,98,122],[(30,[(3,117),(10,118)]),(28,[(3,45),(23,46)]),(30,[(4,24),(31,25)]),(30,[(11,15),(31,16)])]),
  ([6,30,54,78,102,126],[(30,[(7,116),(7,117)]),(28,[(21,45),(7,46)]),(30,[(1,23),(37,24)]),(30,[(19,15),(26,16)])]),
  ([6,26,52,78,104,130],[(30,[(5,115),(10,116)]),(28,[(19,47),(10,48)]),(30,[(15,24),(25,25)]),(30,[(23,15),(25,16)])]),
  ([6,30,56,82,108,134],[(30,[(13,115),(3,116)]),(28,[(2,46),(29,47)]),(30,[(42,24),(1,25)]),(30,[(23,15),(28,16)])]),
  ([6,34,60,86,112,138],[(30,[(17,115)]),(28,[(10,46),(23,47)]),(30,[(10,24),(35,25)]),(30,[(19,15),(35,16)])]),
  ([6,30,58,86,114,142],[(30,[(17,115),(1,116)]),(28,[(14,46),(21,47)]),(30,[(29,24),(19,25)]),(30,[(11,15),(46,16)])]),
  ([6,34,62,90,118,146],[(30,[(13,115),(6,116)]),(28,[(14,46),(23,47)]),(30,[(44,24),(7,25)]),(30,[(59,16),(1,17)])]),
  ([6,30,54,78,102,126,150],[(30,[(12,121),(7,122)]),(28,[(12,47),(26,48)]),(30,[(39,24),(14,25)]),(30,[(22,15),(41,16)])]),
  ([6,24,50,76,102,128,154],[(30,[(6,121),(14,122)]),(28,[(6,47),(34,48)]),(30,[(46,24),(10,25)]),(30,[(2,15),(64,16)])]),
  ([6,28,54,80,106,132,158],[(30,[(17,122),(4,123)]),(28,[(29,46),(14,47)]),(30,[(49,24),(10,25)]),(30,[(24,15),(46,16)])]),
  ([6,32,58,84,110,136,162],[(30,[(4,122),(18,123)]),(28,[(13,46),(32,47)]),(30,[(48,24),(14,25)]),(30,[(42,15),(32,16)])]),
  ([6,26,54,82,110,138,166],[(30,[(20,117),(4,118)]),(28,[(40,47),(7,48)]),(30,[(43,24),(22,25)]),(30,[(10,15),(67,16)])]),
  ([6,30,58,86,114,142,170],[(30,[(19,118),(6,119)]),(28,[(18,47),(31,48)]),(30,[(34,24),(34,25)]),(30,[(20,15),(61,16)])])]
abbrev OpKey:=Op×Option Tmp×Option (Nat×Bool)
def keyOf (o:Oper):OpKey:=(o.op,o.dst,o.guard)
def ci (n:Int):Operand:=.const (.int .i64 n)
def ecbKeys:List (Int×Int)->Nat->List OpKey
 | [],_=>[]
 | p :: L,i=>(.build 221 #[(0,ci p.1),(1,ci p.2)],some i,none) :: ecbKeys L (i+1)
def tmpsAt (i m:Nat):Array (Nat×Operand):=((List.range m).map fun j=>(j,Operand.tmp (i+j))).toArray
def blkKeys (b:Int×List (Int×Int))(i:Nat):List OpKey :=
 ecbKeys b.2 i++[(.buildSlice 222 b.2.length (tmpsAt i b.2.length),some (i+b.2.length),none),(.build 224 #[(0,ci b.1),(1,.tmp (i+b.2.length))],some (i+b.2.length+1),none)]
def blksKeys:List (Int×List (Int×Int))->Nat->List OpKey
 | [],_=>[]
 | b :: L,i=>blkKeys b i++blksKeys L (i+b.2.length+2)
def blksEnd:List (Int×List (Int×Int))->Nat->Nat
 | [],i=>i
 | b :: L,i=>blksEnd L (i+b.2.length+2)
def blksTmps:List (Int×List (Int×Int))->Nat->List Operand
 | [],_=>[]
 | b :: L,i=>.tmp (i+b.2.length+1) :: blksTmps L (i+b.2.length+2)
def enum {α:Type}(L:List α):Array (Nat×α):=(L.zipIdx.map fun p=>(p.2,p.1)).toArray
def bodyKeys (n:Nat)(v:VerRow)(i:Nat):List OpKey :=
 (.buildSlice 93 v.1.length (enum (v.1.map ci)),some i,none) :: (blksKeys v.2 (i+1) ++
  [(.buildSlice 152 4 (enum (blksTmps v.2 (i+1))),some (blksEnd v.2 (i+1)),none),
   (.call { callee:=.value (.func 143),args:=#[ci n,.tmp i,.tmp (blksEnd v.2 (i+1))],argTypes:=#[3,93,152] },some (blksEnd v.2 (i+1)+1),none),
   (.assign (.tmp (blksEnd v.2 (i+1)+1)),some 2,none)])
abbrev Arm:=List OpKey×Operand×List OpKey
def armsFrom:Nat->Nat->List VerRow->List Arm
 | _,_,[]=>[]
 | n,s,v :: L=>([(.binOp .eql 3 (.tmp 3) (ci n) 3,some (s+1),none),(.assign (.tmp (s+1)),some s,none)],.tmp s,bodyKeys n v (s+2)) :: armsFrom (n+1) (blksEnd v.2 (s+3)+2) L
def unchain:Nat->Code->List Arm
 | 0,_=>[]
 | f+1,.seq (.region _ ops false) (.cond c (.seq (.region _ body false) .ret) rest)=>(ops.toList.map keyOf,c,body.toList.map keyOf) :: unchain f rest
 | _,_=>[]
def chainOf (f:Func):Code:=match f.body with
 | some (.seq _ (.seq (.seq _ (.block _ c)) _))=>c
 | _=>.skip
def headOf (f:Func):Code:=match f.body with
 | some (.seq a _)=>a
 | _=>.skip
def head2Of (f:Func):Code:=match f.body with
 | some (.seq _ (.seq (.seq a _) _))=>a
 | _=>.skip
def tailOf (f:Func):Code:=match f.body with
 | some (.seq _ (.seq _ c))=>c
 | _=>.skip
theorem body62:Tryz.f104.body=some (.seq (headOf Tryz.f104) (.seq (.seq (head2Of Tryz.f104) (.block 0 (chainOf Tryz.f104))) (tailOf Tryz.f104))):=by kernel_rfl
def regOps:Code->Array Oper
 | .region _ ops _=>ops
 | _=>#[]
theorem head62:headOf Tryz.f104=.region 0 (regOps (headOf Tryz.f104)) false/\(regOps (headOf Tryz.f104)).toList.map keyOf=[(.assign (.const (.pointer none)),some 2,none)]:=⟨by kernel_rfl,by kernel_rfl⟩
theorem head62b:head2Of Tryz.f104=.region 1 (regOps (head2Of Tryz.f104)) false/\(regOps (head2Of Tryz.f104)).toList.map keyOf=[(.move (.tmp 0),some 3,none)]:=⟨by kernel_rfl,by kernel_rfl⟩
set_option maxRecDepth 100000 in
theorem chain62_eq:unchain 40 (chainOf Tryz.f104)=armsFrom 1 4 verTab:=by kernel_rfl
def WK (ops:Array Oper)(Q:Exit->Act->World->Prop)(keys:List OpKey)(a:Act)(W:World):Prop:=∀ l:List Oper,l.map keyOf=keys->wpList Tryz.prog ops Q l a W
section
variable {ops:Array Oper} {Q:Exit->Act->World->Prop} {ks:List OpKey} {a:Act} {W W':World}
theorem WK_cons {k:OpKey}(h:∀ (o:Oper) (l:List Oper),o.op=k.1->o.dst=k.2.1->o.guard=k.2.2->l.map keyOf=ks->wpList Tryz.prog ops Q (o :: l) a W):WK ops Q (k :: ks) a W:=by
 intro l hl
 cases l with
 | nil=>cases hl
 | cons o l=>
  rw [List.map_cons] at hl
  injection hl with h1 h2
  subst h1
  exact h o l rfl rfl rfl h2
theorem WK_nil (h:Q .normal a W):WK ops Q [] a W:=by
 intro l hl
 cases l with
 | nil=>exact h
 | cons o l=>cases hl
theorem WK_build (t:TypeId)(parts:Array (Nat×Operand))(d:Nat)(vals:Array (Nat×Value))(hv:(parts.map fun p=>(p.1,a.eval p.2))=vals)(v:Value)(hrun:(Instr.build t vals).run Tryz.prog W=.ok v W')
  (k:WK ops Q ks (a.put (some d) v) W'):WK ops Q ((.build t parts,some d,none) :: ks) a W :=
 WK_cons fun o l h1 h2 h3 h4=>wpList_buildV h3 t parts h1 vals hv v hrun (by rw [h2];exact k l h4)
theorem WK_slice (t:TypeId)(n:Nat)(parts:Array (Nat×Operand))(d:Nat)(vals:Array (Nat×Value))(hv:(parts.map fun p=>(p.1,a.eval p.2))=vals)(v:Value)(hrun:(Instr.buildSlice t n vals).run Tryz.prog W=.ok v W')
  (k:WK ops Q ks (a.put (some d) v) W'):WK ops Q ((.buildSlice t n parts,some d,none) :: ks) a W :=
 WK_cons fun o l h1 h2 h3 h4=>wpList_build h3 t n parts h1 vals hv v hrun (by rw [h2];exact k l h4)
theorem WK_assign (x:Operand)(d:Nat)(k:WK ops Q ks (a.put (some d) (a.eval x)) W):WK ops Q ((.assign x,some d,none) :: ks) a W :=
 WK_cons fun o l h1 h2 h3 h4=>wpList_assign h3 x h1 (by rw [h2];exact k l h4)
theorem WK_move (x:Operand)(d:Nat)(k:WK ops Q ks (a.put (some d) (a.eval x)) W):WK ops Q ((.move x,some d,none) :: ks) a W :=
 WK_cons fun o l h1 h2 h3 h4=>wpList_move h3 x h1 (by rw [h2];exact k l h4)
theorem WK_eql (x:Operand)(n c:Int)(d:Nat)(hx:a.eval x=.int .i64 n)(k:WK ops Q ks (a.put (some d) (.bool (n==c))) W):WK ops Q ((.binOp .eql 3 x (ci c) 3,some d,none) :: ks) a W :=
 WK_cons fun o l h1 h2 h3 h4=>wpList_eqlC h3 x n c h1 hx (by rw [h2];exact k l h4)
theorem WK_call (op:Op)(d:Nat)(f:FuncId)(args:Array Value)(hrun:∀ o:Oper,o.op=op->(execOp a.eval o).run Tryz.prog W=.ok (.enter f args) W)(R:Ending->World->Prop)(hc:Calls Tryz.prog f args W R)
  (k:∀ e W',R e W'->∃ v,e=.returned v/\WK ops Q ks (a.put (some d) v) W'):WK ops Q ((op,some d,none) :: ks) a W :=
 WK_cons fun o l h1 h2 h3 h4=>wpList_plain h3 fun K hK=>by
  unfold Oper.wp
  rw [hrun o h1,Oper.upon_enter]
  refine hc.mono fun e w'' hh=>?_
  obtain⟨v,rfl,hw⟩:=k e w'' hh
  refine hK _ _ ?_
  rw [h2]
  exact hw l h4
end
structure Ext (a a':Act)(i:Nat):Prop where
 size:a'.tmps.size=a.tmps.size
 defers:a'.defers=a.defers
 same:∀ j,j<i->a'.eval (.tmp j)=a.eval (.tmp j)
theorem Ext.refl (a:Act)(i:Nat):Ext a a i:=⟨rfl,rfl,fun _ _=>rfl⟩
theorem Ext.put {a a':Act}{i:Nat}(h:Ext a a' i)(d:Nat)(v:Value)(hd:i<=d):Ext a (a'.put (some d) v) i :=
 ⟨by rw [Act.size_put,h.size],by rw [Act.defers_put',h.defers],fun j hj=>by rw [Act.eval_put_ne _ _ _ _ (by omega),h.same j hj]⟩
theorem Ext.trans {a b c:Act}{i j:Nat}(h:Ext a b i)(k:Ext b c j)(hij:i<=j):Ext a c i:=⟨k.size.trans h.size,k.defers.trans h.defers,fun n hn=>(k.same n (by omega)).trans (h.same n hn)⟩
theorem Ext.mono {a b:Act}{i j:Nat}(h:Ext a b j)(hij:i<=j):Ext a b i:=⟨h.size,h.defers,fun n hn=>h.same n (by omega)⟩
section
variable {ops:Array Oper} {Q:Exit->Act->World->Prop} {ks:List OpKey} {a:Act} {W W':World}
set_option maxRecDepth 100000 in
theorem block_wp (b:Int×List (Int×Int))(i:Nat)(hb:b.2.length=1\/b.2.length=2)(hs:i+b.2.length+1<a.tmps.size)
  (k:∀ a',Ext a a' i->a'.eval (.tmp (i+b.2.length+1))=.agg #[.int .i64 b.1,.slice (some ⟨W.heap.size,0,none⟩) b.2.length b.2.length]->WK ops Q ks a' (W.alloc (.cells (ecbCells b.2).toArray 221))) :
  WK ops Q (blkKeys b i++ks) a W:=by
 obtain⟨ec,L⟩:=b
 match L,hb,hs,k with
 | [(c,d)],_,hs,k=>
  have hs:i+2<a.tmps.size:=hs
  refine WK_build 221 #[(0,ci c),(1,ci d)] i #[(0,.int .i64 c),(1,.int .i64 d)] (by kernel_rfl) _ (run_ecb c d W) ?_
  refine WK_slice 222 1 #[(0,.tmp i)] (i+1) #[(0,.agg #[.int .i64 c,.int .i64 d])] ?_ _ (run_ecbs1 c d W) ?_
  ·rw [show (#[(0,Operand.tmp i)]:Array (Nat×Operand)).map (fun p=>(p.1,(a.put (some i) (.agg #[.int .i64 c,.int .i64 d])).eval p.2))=#[(0,(a.put (some i) (.agg #[.int .i64 c,.int .i64 d])).eval (.tmp i))] from by kernel_rfl,Act.eval_put_same _ _ _ (by omega)]
  refine WK_build 224 #[(0,ci ec),(1,.tmp (i+1))] (i+1+1) #[(0,.int .i64 ec),(1,.slice (some ⟨W.heap.size,0,none⟩) 1 1)] ?_ _ (run_blk ec W.heap.size 1 _) ?_
  ·rw [show ∀ A:Act,(#[(0,ci ec),(1,Operand.tmp (i+1))]:Array (Nat×Operand)).map (fun p=>(p.1,A.eval p.2))=#[(0,.int .i64 ec),(1,A.eval (.tmp (i+1)))] from fun _=>by kernel_rfl,Act.eval_put_same _ _ _ (by rw [Act.size_put];omega)]
  refine k _ ((((Ext.refl a i).put i _ (by omega)).put (i+1) _ (by omega)).put (i+1+1) _ (by omega)) ?_
  exact Act.eval_put_same _ _ _ (by rw [Act.size_put,Act.size_put];omega)
 | [(c,d),(e,f)],_,hs,k=>
  have hs:i+3<a.tmps.size:=hs
  refine WK_build 221 #[(0,ci c),(1,ci d)] i #[(0,.int .i64 c),(1,.int .i64 d)] (by kernel_rfl) _ (run_ecb c d W) ?_
  refine WK_build 221 #[(0,ci e),(1,ci f)] (i+1) #[(0,.int .i64 e),(1,.int .i64 f)] (by kernel_rfl) _ (run_ecb e f W) ?_
  refine WK_slice 222 2 #[(0,.tmp i),(1,.tmp (i+1))] (i+2) #[(0,.agg #[.int .i64 c,.int .i64 d]),(1,.agg #[.int .i64 e,.int .i64 f])] ?_ _ (run_ecbs2 c d e f W) ?_
  ·rw [show ∀ A:Act,(#[(0,Operand.tmp i),(1,Operand.tmp (i+1))]:Array (Nat×Operand)).map (fun p=>(p.1,A.eval p.2))=#[(0,A.eval (.tmp i)),(1,A.eval (.tmp (i+1)))] from fun _=>by kernel_rfl,Act.eval_put_same _ _ _ (by rw [Act.size_put];omega),Act.eval_put_ne _ _ _ _ (by omega),Act.eval_put_same _ _ _ (by omega)]
  refine WK_build 224 #[(0,ci ec),(1,.tmp (i+2))] (i+2+1) #[(0,.int .i64 ec),(1,.slice (some ⟨W.heap.size,0,none⟩) 2 2)] ?_ _ (run_blk ec W.heap.size 2 _) ?_
  ·rw [show ∀ A:Act,(#[(0,ci ec),(1,Operand.tmp (i+2))]:Array (Nat×Operand)).map (fun p=>(p.1,A.eval p.2))=#[(0,.int .i64 ec),(1,A.eval (.tmp (i+2)))] from fun _=>by kernel_rfl,Act.eval_put_same _ _ _ (by rw [Act.size_put,Act.size_put];omega)]
  refine k _ (((((Ext.refl a i).put i _ (by omega)).put (i+1) _ (by omega)).put (i+2) _ (by omega)).put (i+2+1) _ (by omega)) ?_
  exact Act.eval_put_same _ _ _ (by rw [Act.size_put,Act.size_put,Act.size_put];omega)
end
def esCells (v:VerRow)(g:Nat->Nat):Array Value:=match v.2 with
 | [b0,b1,b2,b3]=>#[.int .i64 b0.1,.slice (some ⟨g 0,0,none⟩) b0.2.length b0.2.length,.int .i64 b1.1,.slice (some ⟨g 1,0,none⟩) b1.2.length b1.2.length,
   .int .i64 b2.1,.slice (some ⟨g 2,0,none⟩) b2.2.length b2.2.length,.int .i64 b3.1,.slice (some ⟨g 3,0,none⟩) b3.2.length b3.2.length]
 | _=>#[]
def rowTot (v:VerRow):Int:=ecbTot (v.2.getD 0 (0,[])).1 (v.2.getD 0 (0,[])).2 (v.2.getD 0 (0,[])).2.length
def VerAt (w:World)(p:Nat)(n:Int)(v:VerRow):Prop:=∃ gc ge:Nat,∃ g:Nat->Nat,
 Blk w p 154 #[.int .i64 n,.slice (some ⟨gc,0,none⟩) v.1.length v.1.length,.slice (some ⟨ge,0,none⟩) 4 4,.int .i64 (rowTot v)]/\Blk w gc 3 (nums .i64 v.1).toArray/\Blk w ge 224 (esCells v g)/\
 ∀ l,l<4->Blk w (g l) 221 (ecbCells (v.2.getD l (0,[])).2).toArray
theorem VerAt.below {w w':World}{p B:Nat}{n:Int}{v:VerRow}(h:VerAt w p n v)(hb:Below B w w')(hB:w.heap.size<=B):VerAt w' p n v:=by
 obtain⟨gc,ge,g,h1,h2,h3,h4⟩:=h
 exact⟨gc,ge,g,h1.below hb (by have:=h1.lt;omega),h2.below hb (by have:=h2.lt;omega),h3.below hb (by have:=h3.lt;omega),fun l hl=>(h4 l hl).below hb (by have:=(h4 l hl).lt;omega)⟩
structure RowOK (v:VerRow):Prop where
 four:v.2.length=4
 cents:v.1.length<=7
 grp:∀ b∈v.2,b.2.length=1\/b.2.length=2
 ec:∀ b∈v.2,0<=b.1/\b.1<=100
 lim:∀ b∈v.2,∀ q∈b.2,0<=q.1/\q.1<=100/\0<=q.2/\q.2<=1000
theorem rows_ok:∀ v∈verTab,RowOK v:=by
 have h:∀ v∈verTab,v.2.length=4/\v.1.length<=7/\(∀ b∈v.2,b.2.length=1\/b.2.length=2)/\(∀ b∈v.2,0<=b.1/\b.1<=100)/\(∀ b∈v.2,∀ q∈b.2,0<=q.1/\q.1<=100/\0<=q.2/\q.2<=1000):=by decide +kernel
 intro v hv
 obtain⟨h1,h2,h3,h4,h5⟩:=h v hv
 exact⟨h1,h2,h3,h4,h5⟩
def enumV (L:List Int):Array (Nat×Value):=enum (L.map fun n=>Value.int .i64 n)
theorem run_cents:∀ (cs:List Int) (hl:cs.length<=7) (W:World),(Instr.buildSlice 93 cs.length (enumV cs)).run Tryz.prog W=.ok (.slice (some ⟨W.heap.size,0,none⟩) cs.length cs.length) (W.alloc (.cells (nums .i64 cs).toArray 3))
 | [],_,W=>by kernel_rfl
 | [a],_,W=>by kernel_rfl
 | [a,b],_,W=>by kernel_rfl
 | [a,b,c],_,W=>by kernel_rfl
 | [a,b,c,d],_,W=>by kernel_rfl
 | [a,b,c,d,e],_,W=>by kernel_rfl
 | [a,b,c,d,e,f],_,W=>by kernel_rfl
 | [a,b,c,d,e,f,g],_,W=>by kernel_rfl
 | _ :: _ :: _ :: _ :: _ :: _ :: _ :: _ :: _,h,_=>by simp at h
theorem eval_cents:∀ (cs:List Int) (hl:cs.length<=7) (A:Act),((enum (cs.map ci)).map fun p=>(p.1,A.eval p.2))=enumV cs
 | [],_,A=>by kernel_rfl
 | [a],_,A=>by kernel_rfl
 | [a,b],_,A=>by kernel_rfl
 | [a,b,c],_,A=>by kernel_rfl
 | [a,b,c,d],_,A=>by kernel_rfl
 | [a,b,c,d,e],_,A=>by kernel_rfl
 | [a,b,c,d,e,f],_,A=>by kernel_rfl
 | [a,b,c,d,e,f,g],_,A=>by kernel_rfl
 | _ :: _ :: _ :: _ :: _ :: _ :: _ :: _ :: _,h,_=>by simp at h
section
variable {ops:Array Oper} {Q:Exit->Act->World->Prop} {a:Act} {W:World}
theorem run_call (A:Act)(n:Int)(i e:Nat)(x y:Value)(hx:A.eval (.tmp i)=x)(hy:A.eval (.tmp e)=y)(W:World)(o:Oper)(ho:o.op=.call { callee:=.value (.func 143),args:=#[ci n,.tmp i,.tmp e],argTypes:=#[3,93,152] }) :
  (execOp A.eval o).run Tryz.prog W=.ok (.enter 143 #[.int .i64 n,x,y]) W:=by
 subst hx hy
 unfold execOp
 rw [ho]
 kernel_rfl
set_option maxRecDepth 100000 in
theorem body_wp (n:Nat)(v:VerRow)(i:Nat)(ok:RowOK v)(h2:2<i)(hs:blksEnd v.2 (i+1)+1<a.tmps.size)
  (k:∀ a' W' p,a'.tmps.size=a.tmps.size->a'.defers=a.defers->a'.eval (.tmp 2)=.pointer (some ⟨p,0,none⟩)->W.heap.size<=p->VerAt W' p (n:Int) v->Below W.heap.size W W'->Q .normal a' W'):WK ops Q (bodyKeys n v i) a W:=by
 obtain⟨cs,bs⟩:=v
 obtain⟨b0,b1,b2,b3,rfl⟩:∃ b0 b1 b2 b3,bs=[b0,b1,b2,b3]:=by
  match bs,ok.four with
  | [b0,b1,b2,b3],_=>exact⟨b0,b1,b2,b3,rfl⟩
 have g0:=ok.grp b0 (by simp)
 have g1:=ok.grp b1 (by simp)
 have g2:=ok.grp b2 (by simp)
 have g3:=ok.grp b3 (by simp)
 have hcs:cs.length<=7:=ok.cents
 have hec:=ok.ec b0 (by simp)
 have hlim:=ok.lim b0 (by simp)
 obtain⟨i1,e1⟩:∃ i1,i1=i+1+b0.2.length+2:=⟨_,rfl⟩
 obtain⟨i2,e2⟩:∃ i2,i2=i1+b1.2.length+2:=⟨_,rfl⟩
 obtain⟨i3,e3⟩:∃ i3,i3=i2+b2.2.length+2:=⟨_,rfl⟩
 obtain⟨i4,e4⟩:∃ i4,i4=i3+b3.2.length+2:=⟨_,rfl⟩
 have hend:blksEnd [b0,b1,b2,b3] (i+1)=i4:=by rw [blksEnd,blksEnd,blksEnd,blksEnd,blksEnd,e4,e3,e2,e1]
 have hs:i4+1<a.tmps.size:=by rw [<- hend];exact hs
 have hkeys:bodyKeys n (cs,[b0,b1,b2,b3]) i=(.buildSlice 93 cs.length (enum (cs.map ci)),some i,none) :: (blkKeys b0 (i+1)++(blkKeys b1 i1++(blkKeys b2 i2++(blkKeys b3 i3 ++
   [(.buildSlice 152 4 #[(0,.tmp (i+1+b0.2.length+1)),(1,.tmp (i1+b1.2.length+1)),(2,.tmp (i2+b2.2.length+1)),(3,.tmp (i3+b3.2.length+1))],some i4,none),
    (.call { callee:=.value (.func 143),args:=#[ci n,.tmp i,.tmp i4],argTypes:=#[3,93,152] },some (i4+1),none),(.assign (.tmp (i4+1)),some 2,none)])))):=by
  unfold bodyKeys
  simp only [hend,blksKeys,List.append_assoc,List.nil_append,<- e1,<- e2,<- e3,<- e4]
  rw [show enum (blksTmps [b0,b1,b2,b3] (i+1))=#[(0,Operand.tmp (i+1+b0.2.length+1)),(1,.tmp (i+1+b0.2.length+2+b1.2.length+1)),(2,.tmp (i+1+b0.2.length+2+b1.2.length+2+b2.2.length+1)),(3,.tmp (i+1+b0.2.length+2+b1.2.length+2+b2.2.length+2+b3.2.length+1))] from by kernel_rfl,<- e1,<- e2,<- e3]
 rw [hkeys]
 refine WK_slice 93 cs.length _ i (enumV cs) (eval_cents cs hcs _) _ (run_cents cs hcs W) ?_
 obtain⟨a0,ha0⟩:∃ a0,a0=a.put (some i) (.slice (some ⟨W.heap.size,0,none⟩) cs.length cs.length):=⟨_,rfl⟩
 have s0:a0.tmps.size=a.tmps.size:=by rw [ha0,Act.size_put]
 have d0:a0.defers=a.defers:=by rw [ha0,Act.defers_put']
 have v0:a0.eval (.tmp i)=.slice (some ⟨W.heap.size,0,none⟩) cs.length cs.length:=by rw [ha0];exact Act.eval_put_same _ _ _ (by omega)
 rw [<- ha0]
 obtain⟨W0,hW0⟩:∃ W0,W0=W.alloc (.cells (nums .i64 cs).toArray 3):=⟨_,rfl⟩
 rw [<- hW0]
 refine block_wp b0 (i+1) g0 (by omega) fun a1 x1 u1=>?_
 obtain⟨W1,hW1⟩:∃ W1,W1=W0.alloc (.cells (ecbCells b0.2).toArray 221):=⟨_,rfl⟩
 rw [<- hW1]
 refine block_wp b1 i1 g1 (by rw [x1.size];omega) fun a2 x2 u2=>?_
 obtain⟨W2,hW2⟩:∃ W2,W2=W1.alloc (.cells (ecbCells b1.2).toArray 221):=⟨_,rfl⟩
 rw [<- hW2]
 refine block_wp b2 i2 g2 (by rw [x2.size,x1.size];omega) fun a3 x3 u3=>?_
 obtain⟨W3,hW3⟩:∃ W3,W3=W2.alloc (.cells (ecbCells b2.2).toArray 221):=⟨_,rfl⟩
 rw [<- hW3]
 refine block_wp b3 i3 g3 (by rw [x3.size,x2.size,x1.size];omega) fun a4 x4 u4=>?_
 obtain⟨W4,hW4⟩:∃ W4,W4=W3.alloc (.cells (ecbCells b3.2).toArray 221):=⟨_,rfl⟩
 rw [<- hW4]
 have t0:a4.eval (.tmp (i+1+b0.2.length+1))=.agg #[.int .i64 b0.1,.slice (some ⟨W0.heap.size,0,none⟩) b0.2.length b0.2.length]:=by
  rw [x4.same _ (by omega),x3.same _ (by omega),x2.same _ (by omega),u1]
 have t1:a4.eval (.tmp (i1+b1.2.length+1))=.agg #[.int .i64 b1.1,.slice (some ⟨W1.heap.size,0,none⟩) b1.2.length b1.2.length]:=by
  rw [x4.same _ (by omega),x3.same _ (by omega),u2]
 have t2:a4.eval (.tmp (i2+b2.2.length+1))=.agg #[.int .i64 b2.1,.slice (some ⟨W2.heap.size,0,none⟩) b2.2.length b2.2.length]:=by
  rw [x4.same _ (by omega),u3]
 have ti:a4.eval (.tmp i)=.slice (some ⟨W.heap.size,0,none⟩) cs.length cs.length:=by
  rw [x4.same _ (by omega),x3.same _ (by omega),x2.same _ (by omega),x1.same _ (by omega),v0]
 have sz:a4.tmps.size=a.tmps.size:=by rw [x4.size,x3.size,x2.size,x1.size,s0]
 have df:a4.defers=a.defers:=by rw [x4.defers,x3.defers,x2.defers,x1.defers,d0]
 refine WK_slice 152 4 _ i4 #[(0,.agg #[.int .i64 b0.1,.slice (some ⟨W0.heap.size,0,none⟩) b0.2.length b0.2.length]),(1,.agg #[.int .i64 b1.1,.slice (some ⟨W1.heap.size,0,none⟩) b1.2.length b1.2.length]),(2,.agg #[.int .i64 b2.1,.slice (some ⟨W2.heap.size,0,none⟩) b2.2.length b2.2.length]),(3,.agg #[.int .i64 b3.1,.slice (some ⟨W3.heap.size,0,none⟩) b3.2.length b3.2.length])] ?_ _ (run_blks _ _ _ _ _ _ _ _ _ _ _ _ W4) ?_
 ·rw [show ∀ (A:Act) (q0 q1 q2 q3:Nat),(#[(0,Operand.tmp q0),(1,Operand.tmp q1),(2,Operand.tmp q2),(3,Operand.tmp q3)]:Array (Nat×Operand)).map (fun p=>(p.1,A.eval p.2))=#[(0,A.eval (.tmp q0)),(1,A.eval (.tmp q1)),(2,A.eval (.tmp q2)),(3,A.eval (.tmp q3))] from fun _ _ _ _ _=>by kernel_rfl,t0,t1,t2,u4]
 obtain⟨W5,hW5⟩:∃ W5,W5=W4.alloc (.cells #[.int .i64 b0.1,.slice (some ⟨W0.heap.size,0,none⟩) b0.2.length b0.2.length,.int .i64 b1.1,.slice (some ⟨W1.heap.size,0,none⟩) b1.2.length b1.2.length,.int .i64 b2.1,.slice (some ⟨W2.heap.size,0,none⟩) b2.2.length b2.2.length,.int .i64 b3.1,.slice (some ⟨W3.heap.size,0,none⟩) b3.2.length b3.2.length] 224):=⟨_,rfl⟩
 rw [<- hW5]
 have k0:Blk W5 W.heap.size 3 (nums .i64 cs).toArray:=by
  rw [hW5,hW4,hW3,hW2,hW1,hW0]
  exact (((((Blk.new W 3 _).alloc _).alloc _).alloc _).alloc _).alloc _
 have k1:Blk W5 W0.heap.size 221 (ecbCells b0.2).toArray:=by
  rw [hW5,hW4,hW3,hW2,hW1]
  exact ((((Blk.new W0 221 _).alloc _).alloc _).alloc _).alloc _
 have k2:Blk W5 W1.heap.size 221 (ecbCells b1.2).toArray:=by
  rw [hW5,hW4,hW3,hW2]
  exact (((Blk.new W1 221 _).alloc _).alloc _).alloc _
 have k3:Blk W5 W2.heap.size 221 (ecbCells b2.2).toArray:=by
  rw [hW5,hW4,hW3]
  exact ((Blk.new W2 221 _).alloc _).alloc _
 have k4:Blk W5 W3.heap.size 221 (ecbCells b3.2).toArray:=by
  rw [hW5,hW4]
  exact (Blk.new W3 221 _).alloc _
 have k5:Blk W5 W4.heap.size 224 #[.int .i64 b0.1,.slice (some ⟨W0.heap.size,0,none⟩) b0.2.length b0.2.length,.int .i64 b1.1,.slice (some ⟨W1.heap.size,0,none⟩) b1.2.length b1.2.length,.int .i64 b2.1,.slice (some ⟨W2.heap.size,0,none⟩) b2.2.length b2.2.length,.int .i64 b3.1,.slice (some ⟨W3.heap.size,0,none⟩) b3.2.length b3.2.length]:=by
  rw [hW5]
  exact Blk.new W4 224 _
 have hb5:Below W.heap.size W W5:=by
  rw [hW5,hW4,hW3,hW2,hW1,hW0]
  repeat (first | exact Below.refl _ _ | apply below_alloc)
 have hc:=newVer W5 (n:Int) b0.1 W.heap.size cs.length W4.heap.size W0.heap.size b0.2.length _ b0.2 rfl (by omega) k5 rfl rfl k1 hec hlim
 refine WK_call _ (i4+1) 143 #[.int .i64 (n:Int),.slice (some ⟨W.heap.size,0,none⟩) cs.length cs.length,.slice (some ⟨W4.heap.size,0,none⟩) 4 4] (fun o ho=>run_call _ n i i4 _ _ ?_ ?_ W5 o ho) _ hc ?_
 ·rw [Act.eval_put_ne _ _ _ _ (by omega),ti]
 ·exact Act.eval_put_same _ _ _ (by omega)
 rintro e W' ⟨p,rfl,hp,hbw,hblk⟩
 refine⟨_,rfl,?_⟩
 refine WK_assign _ 2 (WK_nil ?_)
 refine k _ W' p (by rw [Act.size_put,Act.size_put,Act.size_put,sz]) (by rw [Act.defers_put',Act.defers_put',Act.defers_put',df]) ?_ (Nat.le_trans hb5.size hp) ?_ (hb5.trans (hbw.mono hb5.size))
 ·rw [Act.eval_put_same _ _ _ (by rw [Act.size_put,Act.size_put];omega)]
  exact Act.eval_put_same _ _ _ (by rw [Act.size_put];omega)
 ·refine⟨W.heap.size,W4.heap.size,fun l=>match l with | 0=>W0.heap.size | 1=>W1.heap.size | 2=>W2.heap.size | _=>W3.heap.size,hblk,k0.below hbw k0.lt,k5.below hbw k5.lt,?_⟩
  intro l hl
  match l,hl with
  | 0,_=>exact k1.below hbw k1.lt
  | 1,_=>exact k2.below hbw k2.lt
  | 2,_=>exact k3.below hbw k3.lt
  | 3,_=>exact k4.below hbw k4.lt
end
theorem unchain_cons {f:Nat}{c:Code}{A:Arm}{As:List Arm}(h:unchain (f+1) c=A :: As) :
  ∃ (i1 i2:Nat) (ops body:Array Oper) (x:Operand) (rest:Code),c=.seq (.region i1 ops false) (.cond x (.seq (.region i2 body false) .ret) rest)/\ops.toList.map keyOf=A.1/\x=A.2.1/\body.toList.map keyOf=A.2.2/\unchain f rest=As:=by
 unfold unchain at h
 split at h
 ·cases h
 ·rename_i f' _ _ _ _ _ _ heq
  obtain rfl:f=f':=by omega
  injection h with h1 h2
  subst h1
  exact⟨_,_,_,_,_,_,rfl,rfl,rfl,rfl,h2⟩
 ·cases h
theorem blksEnd_ge:∀ (L:List (Int×List (Int×Int))) (i:Nat),i<=blksEnd L i:=by
 intro L
 induction L with
 | nil=>intro i;exact Nat.le_refl _
 | cons b L ih=>intro i;rw [blksEnd];exact Nat.le_trans (by omega) (ih _)
def chainEnd:Nat->List VerRow->Nat
 | s,[]=>s
 | s,v :: L=>chainEnd (blksEnd v.2 (s+3)+2) L
theorem chainEnd_ge:∀ (L:List VerRow) (s:Nat),s<=chainEnd s L:=by
 intro L
 induction L with
 | nil=>intro s;exact Nat.le_refl _
 | cons v L ih=>intro s;rw [chainEnd];exact Nat.le_trans (by have:=blksEnd_ge v.2 (s+3);omega) (ih _)
theorem chain_wp (Q:Exit->Act->World->Prop)(n:Nat)(W:World)(N:Nat):∀ (L:List VerRow) (m s f:Nat) (c:Code) (a:Act),unchain f c=armsFrom m s L->m<=n->n<m+L.length->(∀ v∈L,RowOK v)->
  a.eval (.tmp 3)=.int .i64 (n:Int)->3<s->chainEnd s L<=a.tmps.size->a.tmps.size=N->a.defers=[]->
  (∀ a' W' p,a'.tmps.size=N->a'.defers=[]->a'.eval (.tmp 2)=.pointer (some ⟨p,0,none⟩)->W.heap.size<=p->VerAt W' p (n:Int) (L.getD (n-m) ([],[]))->Below W.heap.size W W'->Q .ret a' W')->c.wp Tryz.prog Q a W:=by
 intro L
 induction L with
 | nil=>intro m s f c a _ h1 h2;simp at h2;omega
 | cons v L ih=>
  intro m s f c a hu h1 h2 hok h3 hs hsz hN hdf k
  rw [armsFrom] at hu
  cases f with
  | zero=>cases hu
  | succ f=>
   obtain⟨i1,i2,ops,body,x,rest,rfl,ho,rfl,hb,hr⟩:=unchain_cons hu
   rw [chainEnd] at hsz
   have hge:=chainEnd_ge L (blksEnd v.2 (s+3)+2)
   have hge2:=blksEnd_ge v.2 (s+3)
   refine wp_seq (wp_region_list ?_)
   revert ho
   refine fun ho=>(?_:WK ops (Exit.then ((Code.cond (Operand.tmp s) (.seq (.region i2 body false) .ret) rest).wp Tryz.prog Q) Q) [(.binOp .eql 3 (.tmp 3) (ci m) 3,some (s+1),none),(.assign (.tmp (s+1)),some s,none)] a W) _ ho
   refine WK_eql _ (n:Int) (m:Int) (s+1) h3 (WK_assign _ s (WK_nil ?_))
   have e1:(a.put (some (s+1)) (.bool ((n:Int)==(m:Int)))).eval (.tmp (s+1))=.bool ((n:Int)==(m:Int)):=Act.eval_put_same _ _ _ (by omega)
   rw [e1]
   obtain⟨a2,ha2⟩:∃ a2,a2=(a.put (some (s+1)) (.bool ((n:Int)==(m:Int)))).put (some s) (.bool ((n:Int)==(m:Int))):=⟨_,rfl⟩
   rw [<- ha2]
   have z2:a2.tmps.size=a.tmps.size:=by rw [ha2,Act.size_put,Act.size_put]
   have f2:a2.defers=[]:=by rw [ha2,Act.defers_put',Act.defers_put',hdf]
   have b2:a2.eval (.tmp s)=.bool ((n:Int)==(m:Int)):=by rw [ha2];exact Act.eval_put_same _ _ _ (by rw [Act.size_put];omega)
   have c2:a2.eval (.tmp 3)=.int .i64 (n:Int):=by rw [ha2,Act.eval_put_ne _ _ _ _ (by omega),Act.eval_put_ne _ _ _ _ (by omega),h3]
   show (Code.cond (Operand.tmp s) (.seq (.region i2 body false) .ret) rest).wp Tryz.prog Q a2 W
   by_cases e:n=m
   ·subst e
    refine wp_cond_true (by rw [b2];simp) ?_
    refine wp_seq (wp_region_list ?_)
    refine (?_:WK body (Exit.then (Code.ret.wp Tryz.prog Q) Q) (bodyKeys n v (s+2)) a2 W) _ hb
    refine body_wp n v (s+2) (hok v (List.mem_cons_self ..)) (by omega) (by rw [z2,show s+2+1=s+3 from rfl];omega) ?_
    intro a' W' p q1 q2 q3 q4 q5 q6
    refine wp_ret ?_
    refine k a' W' p (by omega) (by rw [q2,f2]) q3 q4 ?_ q6
    rw [Nat.sub_self]
    exact q5
   ·refine wp_cond_false (by rw [b2];simp;omega) ?_
    refine ih (m+1) (blksEnd v.2 (s+3)+2) f rest a2 hr (by omega) (by rw [List.length_cons] at h2;omega) (fun v' hv'=>hok v' (List.mem_cons_of_mem _ hv')) c2 (by omega) (by omega) (by omega) f2 ?_
    intro a' W' p q1 q2 q3 q4 q5 q6
    refine k a' W' p q1 q2 q3 q4 ?_ q6
    rw [show n-m=(n-(m+1))+1 by omega,List.getD_cons_succ]
    exact q5
def verRow (n:Nat):VerRow:=verTab.getD (n-1) ([],[])
theorem tmps104:Tryz.f104.ntmps=chainEnd 4 verTab:=by kernel_rfl
theorem results104:Tryz.f104.results=#[.tmp 2]:=by kernel_rfl
theorem versionOf_any (w:World)(n:Nat)(h:1<=n/\n<=40) :
  Calls Tryz.prog 104 #[.int .i64 (n:Int)] w fun e w'=>∃ p,e=.returned (.pointer (some ⟨p,0,none⟩))/\w.heap.size<=p/\VerAt w' p (n:Int) (verRow n)/\Below w.heap.size w w':=by
 refine calls_of_wp Tryz.func104 body62 ?_
 have hnt:=tmps104
 have hge:=chainEnd_ge verTab 4
 obtain⟨a,ha⟩:∃ a:Act,a={ tmps:=#[Value.int .i64 (n:Int)]++Array.replicate (Tryz.f104.ntmps-(#[Value.int .i64 (n:Int)]:Array Value).size) undef,defers:=[] }:=⟨_,rfl⟩
 have hsz:a.tmps.size=chainEnd 4 verTab:=by
  rw [ha]
  show (#[Value.int .i64 (n:Int)]++Array.replicate (Tryz.f104.ntmps-1) undef).size=_
  rw [Array.size_append,Array.size_replicate,hnt]
  show 1+_=_
  omega
 have hdf:a.defers=[]:=by rw [ha]
 have h0:a.eval (.tmp 0)=.int .i64 (n:Int):=by
  rw [ha]
  unfold Act.eval
  simp
 rw [<- ha]
 obtain⟨k1,k2⟩:=head62
 obtain⟨k3,k4⟩:=head62b
 refine wp_seq ?_
 rw [k1]
 refine wp_region_list ?_
 refine (?_:WK _ _ _ a w) _ k2
 refine WK_assign _ 2 (WK_nil ?_)
 show Code.wp Tryz.prog _ _ _ w
 refine wp_seq (wp_seq ?_)
 rw [k3]
 refine wp_region_list ?_
 refine (?_:WK _ _ _ _ w) _ k4
 refine WK_move _ 3 (WK_nil ?_)
 show Code.wp Tryz.prog _ _ _ w
 refine wp_block ?_
 have z:∀ (v1 v2:Value),((a.put (some 2) v1).put (some 3) v2).tmps.size=chainEnd 4 verTab:=fun v1 v2=>by rw [Act.size_put,Act.size_put,hsz]
 refine chain_wp _ n w (chainEnd 4 verTab) verTab 1 4 40 _ _ chain62_eq h.1 (by show n<1+40;omega) rows_ok ?_ (by omega) (by rw [z];exact Nat.le_refl _) (z _ _) (by rw [Act.defers_put',Act.defers_put',hdf]) ?_
 ·rw [Act.eval_put_same _ _ _ (by rw [Act.size_put,hsz];omega),Act.eval_put_ne _ _ _ _ (by omega),h0]
 ·intro a' W' p q1 q2 q3 q4 q5 q6
  have hgoal:bodyPost Tryz.prog Tryz.f104 (fun e w'=>∃ p,e=.returned (.pointer (some ⟨p,0,none⟩))/\w.heap.size<=p/\VerAt w' p (n:Int) (verRow n)/\Below w.heap.size w w') .ret a' W':=by
   refine bodyPost_ret (v:=.pointer (some ⟨p,0,none⟩)) ?_ q2 ⟨p,rfl,q4,q5,q6⟩
   rw [show results Tryz.f104 a'.tmps=results { Tryz.f104 with results:=#[.tmp 2] } a'.tmps from by unfold results;rw [results104]]
   have:(a'.tmps[2]?.getD undef)=.pointer (some ⟨p,0,none⟩):=by simpa [Act.eval] using q3
   simp [results,go_sem,this]
  exact hgoal
end Go.Proofs.YtgccjgpdjkhpdaaGreat.B
namespace Go.Proofs.YtgccjgpdjkhpdaaGreat.F
open Go.RowKit Go.Proofs.YtgccjgpdjkhpdaaGreatW.PrintWords Go.Proofs.YtgccjgpdjkhpdaaGreatW.PrintLast Go.Proofs.YtgccjgpdjkhpdaaGreatW.PrintMore
attribute [local go_sem] max2_int min2_int max_two min_two max_three min_three max_four min_four
set_option linter.unusedVariables false
set_option linter.unusedSimpArgs false
def bits_OnesCount64.f (a0:Int):Option (Int):=some (Go.bits .and .i64 (wrap64 (IntKind.u64.wrap ((IntKind.u64.wrap ((IntKind.u64.wrap ((Go.bits .and .u64 (IntKind.u64.wrap (((IntKind.u64.wrap ((Go.bits .and .u64 ((IntKind.u64.wrap ((Go.bits .and .u64 (a0/2) 6148914691236517205)+(Go.bits .and .u64 a0 6148914691236517205)))/4) 3689348814741910323)+(Go.bits .and .u64 (IntKind.u64.wrap ((Go.bits .and .u64 (a0/2) 6148914691236517205)+(Go.bits .and .u64 a0 6148914691236517205))) 3689348814741910323)))/16)+(IntKind.u64.wrap ((Go.bits .and .u64 ((IntKind.u64.wrap ((Go.bits .and .u64 (a0/2) 6148914691236517205)+(Go.bits .and .u64 a0 6148914691236517205)))/4) 3689348814741910323)+(Go.bits .and .u64 (IntKind.u64.wrap ((Go.bits .and .u64 (a0/2) 6148914691236517205)+(Go.bits .and .u64 a0 6148914691236517205))) 3689348814741910323))))) 1085102592571150095)+((Go.bits .and .u64 (IntKind.u64.wrap (((IntKind.u64.wrap ((Go.bits .and .u64 ((IntKind.u64.wrap ((Go.bits .and .u64 (a0/2) 6148914691236517205)+(Go.bits .and .u64 a0 6148914691236517205)))/4) 3689348814741910323)+(Go.bits .and .u64 (IntKind.u64.wrap ((Go.bits .and .u64 (a0/2) 6148914691236517205)+(Go.bits .and .u64 a0 6148914691236517205))) 3689348814741910323)))/16)+(IntKind.u64.wrap ((Go.bits .and .u64 ((IntKind.u64.wrap ((Go.bits .and .u64 (a0/2) 6148914691236517205)+(Go.bits .and .u64 a0 6148914691236517205)))/4) 3689348814741910323)+(Go.bits .and .u64 (IntKind.u64.wrap ((Go.bits .and .u64 (a0/2) 6148914691236517205)+(Go.bits .and .u64 a0 6148914691236517205))) 3689348814741910323))))) 1085102592571150095)/256)))+((IntKind.u64.wrap ((Go.bits .and .u64 (IntKind.u64.wrap (((IntKind.u64.wrap ((Go.bits .and .u64 ((IntKind.u64.wrap ((Go.bits .and .u64 (a0/2) 6148914691236517205)+(Go.bits .and .u64 a0 6148914691236517205)))/4) 3689348814741910323)+(Go.bits .and .u64 (IntKind.u64.wrap ((Go.bits .and .u64 (a0/2) 6148914691236517205)+(Go.bits .and .u64 a0 6148914691236517205))) 3689348814741910323)))/16)+(IntKind.u64.wrap ((Go.bits .and .u64 ((IntKind.u64.wrap ((Go.bits .and .u64 (a0/2) 6148914691236517205)+(Go.bits .and .u64 a0 6148914691236517205)))/4) 3689348814741910323)+(Go.bits .and .u64 (IntKind.u64.wrap ((Go.bits .and .u64 (a0/2) 6148914691236517205)+(Go.bits .and .u64 a0 6148914691236517205))) 3689348814741910323))))) 1085102592571150095)+((Go.bits .and .u64 (IntKind.u64.wrap (((IntKind.u64.wrap ((Go.bits .and .u64 ((IntKind.u64.wrap ((Go.bits .and .u64 (a0/2) 6148914691236517205)+(Go.bits .and .u64 a0 6148914691236517205)))/4) 3689348814741910323)+(Go.bits .and .u64 (IntKind.u64.wrap ((Go.bits .and .u64 (a0/2) 6148914691236517205)+(Go.bits .and .u64 a0 6148914691236517205))) 3689348814741910323)))/16)+(IntKind.u64.wrap ((Go.bits .and .u64 ((IntKind.u64.wrap ((Go.bits .and .u64 (a0/2) 6148914691236517205)+(Go.bits .and .u64 a0 6148914691236517205)))/4) 3689348814741910323)+(Go.bits .and .u64 (IntKind.u64.wrap ((Go.bits .and .u64 (a0/2) 6148914691236517205)+(Go.bits .and .u64 a0 6148914691236517205))) 3689348814741910323))))) 1085102592571150095)/256)))/65536)))+((IntKind.u64.wrap ((IntKind.u64.wrap ((Go.bits .and .u64 (IntKind.u64.wrap (((IntKind.u64.wrap ((Go.bits .and .u64 ((IntKind.u64.wrap ((Go.bits .and .u64 (a0/2) 6148914691236517205)+(Go.bits .and .u64 a0 6148914691236517205)))/4) 3689348814741910323)+(Go.bits .and .u64 (IntKind.u64.wrap ((Go.bits .and .u64 (a0/2) 6148914691236517205)+(Go.bits .and .u64 a0 6148914691236517205))) 3689348814741910323)))/16)+(IntKind.u64.wrap ((Go.bits .and .u64 ((IntKind.u64.wrap ((Go.bits .and .u64 (a0/2) 6148914691236517205)+(Go.bits .and .u64 a0 6148914691236517205)))/4) 3689348814741910323)+(Go.bits .and .u64 (IntKind.u64.wrap ((Go.bits .and .u64 (a0/2) 6148914691236517205)+(Go.bits .and .u64 a0 6148914691236517205))) 3689348814741910323))))) 1085102592571150095)+((Go.bits .and .u64 (IntKind.u64.wrap (((IntKind.u64.wrap ((Go.bits .and .u64 ((IntKind.u64.wrap ((Go.bits .and .u64 (a0/2) 6148914691236517205)+(Go.bits .and .u64 a0 6148914691236517205)))/4) 3689348814741910323)+(Go.bits .and .u64 (IntKind.u64.wrap ((Go.bits .and .u64 (a0/2) 6148914691236517205)+(Go.bits .and .u64 a0 6148914691236517205))) 3689348814741910323)))/16)+(IntKind.u64.wrap ((Go.bits .and .u64 ((IntKind.u64.wrap ((Go.bits .and .u64 (a0/2) 6148914691236517205)+(Go.bits .and .u64 a0 6148914691236517205)))/4) 3689348814741910323)+(Go.bits .and .u64 (IntKind.u64.wrap ((Go.bits .and .u64 (a0/2) 6148914691236517205)+(Go.bits .and .u64 a0 6148914691236517205))) 3689348814741910323))))) 1085102592571150095)/256)))+((IntKind.u64.wrap ((Go.bits .and .u64 (IntKind.u64.wrap (((IntKind.u64.wrap ((Go.bits .and .u64 ((IntKind.u64.wrap ((Go.bits .and .u64 (a0/2) 6148914691236517205)+(Go.bits .and .u64 a0 6148914691236517205)))/4) 3689348814741910323)+(Go.bits .and .u64 (IntKind.u64.wrap ((Go.bits .and .u64 (a0/2) 6148914691236517205)+(Go.bits .and .u64 a0 6148914691236517205))) 3689348814741910323)))/16)+(IntKind.u64.wrap ((Go.bits .and .u64 ((IntKind.u64.wrap ((Go.bits .and .u64 (a0/2) 6148914691236517205)+(Go.bits .and .u64 a0 6148914691236517205)))/4) 3689348814741910323)+(Go.bits .and .u64 (IntKind.u64.wrap ((Go.bits .and .u64 (a0/2) 6148914691236517205)+(Go.bits .and .u64 a0 6148914691236517205))) 3689348814741910323))))) 1085102592571150095)+((Go.bits .and .u64 (IntKind.u64.wrap (((IntKind.u64.wrap ((Go.bits .and .u64 ((IntKind.u64.wrap ((Go.bits .and .u64 (a0/2) 6148914691236517205)+(Go.bits .and .u64 a0 6148914691236517205)))/4) 3689348814741910323)+(Go.bits .and .u64 (IntKind.u64.wrap ((Go.bits .and .u64 (a0/2) 6148914691236517205)+(Go.bits .and .u64 a0 6148914691236517205))) 3689348814741910323)))/16)+(IntKind.u64.wrap ((Go.bits .and .u64 ((IntKind.u64.wrap ((Go.bits .and .u64 (a0/2) 6148914691236517205)+(Go.bits .and .u64 a0 6148914691236517205)))/4) 3689348814741910323)+(Go.bits .and .u64 (IntKind.u64.wrap ((Go.bits .and .u64 (a0/2) 6148914691236517205)+(Go.bits .and .u64 a0 6148914691236517205))) 3689348814741910323))))) 1085102592571150095)/256)))/65536)))/4294967296)))) 127)
set_option maxHeartbeats 8000000 in
set_option maxRecDepth 100000 in
theorem bits_OnesCount64.calls (a0:Int)(r:Int)(w:World)(h:bits_OnesCount64.f a0=some r) :
  Calls Tryz.prog 168 #[.int .u64 a0] w fun e w'=>e=.returned (.int .i64 r)/\Drawn0 w w':=by
 have H:(some (Go.bits .and .i64 (wrap64 (IntKind.u64.wrap ((IntKind.u64.wrap ((IntKind.u64.wrap ((Go.bits .and .u64 (IntKind.u64.wrap (((IntKind.u64.wrap ((Go.bits .and .u64 ((IntKind.u64.wrap ((Go.bits .and .u64 (a0/2) 6148914691236517205)+(Go.bits .and .u64 a0 6148914691236517205)))/4) 3689348814741910323)+(Go.bits .and .u64 (IntKind.u64.wrap ((Go.bits .and .u64 (a0/2) 6148914691236517205)+(Go.bits .and .u64 a0 6148914691236517205))) 3689348814741910323)))/16)+(IntKind.u64.wrap ((Go.bits .and .u64 ((IntKind.u64.wrap ((Go.bits .and .u64 (a0/2) 6148914691236517205)+(Go.bits .and .u64 a0 6148914691236517205)))/4) 3689348814741910323)+(Go.bits .and .u64 (IntKind.u64.wrap ((Go.bits .and .u64 (a0/2) 6148914691236517205)+(Go.bits .and .u64 a0 6148914691236517205))) 3689348814741910323))))) 1085102592571150095)+((Go.bits .and .u64 (IntKind.u64.wrap (((IntKind.u64.wrap ((Go.bits .and .u64 ((IntKind.u64.wrap ((Go.bits .and .u64 (a0/2) 6148914691236517205)+(Go.bits .and .u64 a0 6148914691236517205)))/4) 3689348814741910323)+(Go.bits .and .u64 (IntKind.u64.wrap ((Go.bits .and .u64 (a0/2) 6148914691236517205)+(Go.bits .and .u64 a0 6148914691236517205))) 3689348814741910323)))/16)+(IntKind.u64.wrap ((Go.bits .and .u64 ((IntKind.u64.wrap ((Go.bits .and .u64 (a0/2) 6148914691236517205)+(Go.bits .and .u64 a0 6148914691236517205)))/4) 3689348814741910323)+(Go.bits .and .u64 (IntKind.u64.wrap ((Go.bits .and .u64 (a0/2) 6148914691236517205)+(Go.bits .and .u64 a0 6148914691236517205))) 3689348814741910323))))) 1085102592571150095)/256)))+((IntKind.u64.wrap ((Go.bits .and .u64 (IntKind.u64.wrap (((IntKind.u64.wrap ((Go.bits .and .u64 ((IntKind.u64.wrap ((Go.bits .and .u64 (a0/2) 6148914691236517205)+(Go.bits .and .u64 a0 6148914691236517205)))/4) 3689348814741910323)+(Go.bits .and .u64 (IntKind.u64.wrap ((Go.bits .and .u64 (a0/2) 6148914691236517205)+(Go.bits .and .u64 a0 6148914691236517205))) 3689348814741910323)))/16)+(IntKind.u64.wrap ((Go.bits .and .u64 ((IntKind.u64.wrap ((Go.bits .and .u64 (a0/2) 6148914691236517205)+(Go.bits .and .u64 a0 6148914691236517205)))/4) 3689348814741910323)+(Go.bits .and .u64 (IntKind.u64.wrap ((Go.bits .and .u64 (a0/2) 6148914691236517205)+(Go.bits .and .u64 a0 6148914691236517205))) 3689348814741910323))))) 1085102592571150095)+((Go.bits .and .u64 (IntKind.u64.wrap (((IntKind.u64.wrap ((Go.bits .and .u64 ((IntKind.u64.wrap ((Go.bits .and .u64 (a0/2) 6148914691236517205)+(Go.bits .and .u64 a0 6148914691236517205)))/4) 3689348814741910323)+(Go.bits .and .u64 (IntKind.u64.wrap ((Go.bits .and .u64 (a0/2) 6148914691236517205)+(Go.bits .and .u64 a0 6148914691236517205))) 3689348814741910323)))/16)+(IntKind.u64.wrap ((Go.bits .and .u64 ((IntKind.u64.wrap ((Go.bits .and .u64 (a0/2) 6148914691236517205)+(Go.bits .and .u64 a0 6148914691236517205)))/4) 3689348814741910323)+(Go.bits .and .u64 (IntKind.u64.wrap ((Go.bits .and .u64 (a0/2) 6148914691236517205)+(Go.bits .and .u64 a0 6148914691236517205))) 3689348814741910323))))) 1085102592571150095)/256)))/65536)))+((IntKind.u64.wrap ((IntKind.u64.wrap ((Go.bits .and .u64 (IntKind.u64.wrap (((IntKind.u64.wrap ((Go.bits .and .u64 ((IntKind.u64.wrap ((Go.bits .and .u64 (a0/2) 6148914691236517205)+(Go.bits .and .u64 a0 6148914691236517205)))/4) 3689348814741910323)+(Go.bits .and .u64 (IntKind.u64.wrap ((Go.bits .and .u64 (a0/2) 6148914691236517205)+(Go.bits .and .u64 a0 6148914691236517205))) 3689348814741910323)))/16)+(IntKind.u64.wrap ((Go.bits .and .u64 ((IntKind.u64.wrap ((Go.bits .and .u64 (a0/2) 6148914691236517205)+(Go.bits .and .u64 a0 6148914691236517205)))/4) 3689348814741910323)+(Go.bits .and .u64 (IntKind.u64.wrap ((Go.bits .and .u64 (a0/2) 6148914691236517205)+(Go.bits .and .u64 a0 6148914691236517205))) 3689348814741910323))))) 1085102592571150095)+((Go.bits .and .u64 (IntKind.u64.wrap (((IntKind.u64.wrap ((Go.bits .and .u64 ((IntKind.u64.wrap ((Go.bits .and .u64 (a0/2) 6148914691236517205)+(Go.bits .and .u64 a0 6148914691236517205)))/4) 3689348814741910323)+(Go.bits .and .u64 (IntKind.u64.wrap ((Go.bits .and .u64 (a0/2) 6148914691236517205)+(Go.bits .and .u64 a0 6148914691236517205))) 3689348814741910323)))/16)+(IntKind.u64.wrap ((Go.bits .and .u64 ((IntKind.u64.wrap ((Go.bits .and .u64 (a0/2) 6148914691236517205)+(Go.bits .and .u64 a0 6148914691236517205)))/4) 3689348814741910323)+(Go.bits .and .u64 (IntKind.u64.wrap ((Go.bits .and .u64 (a0/2) 6148914691236517205)+(Go.bits .and .u64 a0 6148914691236517205))) 3689348814741910323))))) 1085102592571150095)/256)))+((IntKind.u64.wrap ((Go.bits .and .u64 (IntKind.u64.wrap (((IntKind.u64.wrap ((Go.bits .and .u64 ((IntKind.u64.wrap ((Go.bits .and .u64 (a0/2) 6148914691236517205)+(Go.bits .and .u64 a0 6148914691236517205)))/4) 3689348814741910323)+(Go.bits .and .u64 (IntKind.u64.wrap ((Go.bits .and .u64 (a0/2) 6148914691236517205)+(Go.bits .and .u64 a0 6148914691236517205))) 3689348814741910323)))/16)+(IntKind.u64.wrap ((Go.bits .and .u64 ((IntKind.u64.wrap ((Go.bits .and .u64 (a0/2) 6148914691236517205)+(Go.bits .and .u64 a0 6148914691236517205)))/4) 3689348814741910323)+(Go.bits .and .u64 (IntKind.u64.wrap ((Go.bits .and .u64 (a0/2) 6148914691236517205)+(Go.bits .and .u64 a0 6148914691236517205))) 3689348814741910323))))) 1085102592571150095)+((Go.bits .and .u64 (IntKind.u64.wrap (((IntKind.u64.wrap ((Go.bits .and .u64 ((IntKind.u64.wrap ((Go.bits .and .u64 (a0/2) 6148914691236517205)+(Go.bits .and .u64 a0 6148914691236517205)))/4) 3689348814741910323)+(Go.bits .and .u64 (IntKind.u64.wrap ((Go.bits .and .u64 (a0/2) 6148914691236517205)+(Go.bits .and .u64 a0 6148914691236517205))) 3689348814741910323)))/16)+(IntKind.u64.wrap ((Go.bits .and .u64 ((IntKind.u64.wrap ((Go.bits .and .u64 (a0/2) 6148914691236517205)+(Go.bits .and .u64 a0 6148914691236517205)))/4) 3689348814741910323)+(Go.bits .and .u64 (IntKind.u64.wrap ((Go.bits .and .u64 (a0/2) 6148914691236517205)+(Go.bits .and .u64 a0 6148914691236517205))) 3689348814741910323))))) 1085102592571150095)/256)))/65536)))/4294967296)))) 127))=some r:=h
 clear h
 obtain rfl:=Option.some.inj H
 go_enter Tryz.func168,Tryz.ntmps168
 go_wp2
 go_ret
 exact⟨by first | rfl | (simp;done) | (simp [*];done),by repeat (first | exact Drawn0.refl _ | apply Drawn0.step)⟩
def bits_OnesCount.f (a0:Int):Option (Int):=(bits_OnesCount64.f a0).bind fun t143=>(some t143)
set_option maxHeartbeats 8000000 in
set_option maxRecDepth 100000 in
theorem bits_OnesCount.calls (a0:Int)(r:Int)(w:World)(h:bits_OnesCount.f a0=some r) :
  Calls Tryz.prog 155 #[.int .u64 a0] w fun e w'=>e=.returned (.int .i64 r)/\Drawn0 w w':=by
 have H:((bits_OnesCount64.f a0).bind fun t143=>(some t143))=some r:=h
 clear h
 replace H:=Option.bind_eq_some_iff.mp H
 obtain⟨t143,A20,H⟩:=H
 replace H:(some t143)=some r:=H
 have A2:=Aside0.mk A20
 clear A20
 obtain rfl:=Option.some.inj H
 go_enter Tryz.func155,Tryz.ntmps155
 go_wp2_with (first | ((with_reducible refine gate_callee (f:=168) rfl ?_);refine goesL_ (some 7) rfl rfl Tryz.func168 (by kernel_rfl) rfl #[.int .u64 a0] rfl (by (try simp only [List.map_toArray,List.map_cons,List.map_nil]);first | done | rfl | (simp only [List.length_drop,List.length_take];rfl)) ?_;(with_reducible refine (bits_OnesCount64.calls a0 t143 _ A2.out).mono ?_);rintro e w' ⟨rfl,⟨nd,rfl⟩⟩;refine⟨_,rfl,?_⟩))
 go_ret
 exact⟨by first | rfl | (simp;done) | (simp [*];done),by repeat (first | exact Drawn0.refl _ | apply Drawn0.step)⟩
def decoder_FormatInformation_NumBitsDiffering.f (a0:Int)(a1:Int):Option (Int):=(bits_OnesCount.f (Go.bits .xor .u64 a0 a1)).bind fun t144=>(some t144)
set_option maxHeartbeats 8000000 in
set_option maxRecDepth 100000 in
theorem decoder_FormatInformation_NumBitsDiffering.calls (a0:Int)(a1:Int)(r:Int)(w:World)(h:decoder_FormatInformation_NumBitsDiffering.f a0 a1=some r) :
  Calls Tryz.prog 128 #[.int .u64 a0,.int .u64 a1] w fun e w'=>e=.returned (.int .i64 r)/\Drawn0 w w':=by
 have H:((bits_OnesCount.f (Go.bits .xor .u64 a0 a1)).bind fun t144=>(some t144))=some r:=h
 clear h
 replace H:=Option.bind_eq_some_iff.mp H
 obtain⟨t144,A30,H⟩:=H
 replace H:(some t144)=some r:=H
 have A3:=Aside0.mk A30
 clear A30
 obtain rfl:=Option.some.inj H
 go_enter Tryz.func128,Tryz.ntmps128
 go_wp2_with (first | ((with_reducible refine gate_callee (f:=155) rfl ?_);refine goesL_ (some 8) rfl rfl Tryz.func155 (by kernel_rfl) rfl #[.int .u64 (Go.bits .xor .u64 a0 a1)] rfl (by (try simp only [List.map_toArray,List.map_cons,List.map_nil]);first | done | rfl | (simp only [List.length_drop,List.length_take];rfl)) ?_;(with_reducible refine (bits_OnesCount.calls (Go.bits .xor .u64 a0 a1) t144 _ A3.out).mono ?_);rintro e w' ⟨rfl,⟨nd,rfl⟩⟩;refine⟨_,rfl,?_⟩))
 go_ret
 exact⟨by first | rfl | (simp;done) | (simp [*];done),by repeat (first | exact Drawn0.refl _ | apply Drawn0.step)⟩
def IsS154 (w0 W:World)(g:Nat)(f0:Int)(f1:List Int)(f2:List (S224))(f3:Int):Prop:=∃ A1 c1,∃ A2 c2,W.heap[g]? = some (.cells #[.int .i64 f0,.slice A1 f1.length c1,.slice A2 f2.length c2,.int .i64 f3] 154 (0,0))/\w0.heap.size<=g/\Kd.C (Kd.int .i64) w0 A1 f1.length f1/\Kd.C k224 w0 A2 f2.length f2
theorem IsS154.grown {w0 W:World}{g:Nat}{f0:Int}{f1:List Int}{f2:List (S224)}{f3:Int}{W1:World}{row:Option Nat}(h:IsS154 w0 W g f0 f1 f2 f3)(hw:W.grownBy W1 row)(hne:some g≠row):IsS154 w0 W1 g f0 f1 f2 f3:=by
 obtain⟨A1,c1,A2,c2,hb,hg,hr1,hr2⟩:=h
 exact⟨A1,c1,A2,c2,blk_grown hb hw hne,hg,hr1,hr2⟩
theorem IsS154.fresh {w0 W:World}{g:Nat}{f0:Int}{f1:List Int}{f2:List (S224)}{f3:Int}(h:IsS154 w0 W g f0 f1 f2 f3):∀ k,W.heap.size<=k->k≠g:=by
 obtain⟨A1,c1,A2,c2,hb,hg,hr1,hr2⟩:=h
 exact Kd.freshB hb
theorem IsS154.kept {w0 W:World}{g:Nat}{f0:Int}{f1:List Int}{f2:List (S224)}{f3:Int}{W1:World}{S:Nat->Prop}(h:IsS154 w0 W g f0 f1 f2 f3)(hk:Kept W W1 S)(hne:¬ S g):IsS154 w0 W1 g f0 f1 f2 f3:=by
 obtain⟨A1,c1,A2,c2,hb,hg,hr1,hr2⟩:=h
 exact⟨A1,c1,A2,c2,blk_kept hb hk hne,hg,hr1,hr2⟩
theorem IsS154.below {w0 W:World}{g:Nat}{f0:Int}{f1:List Int}{f2:List (S224)}{f3:Int}{W1:World}(h:IsS154 w0 W g f0 f1 f2 f3)(hw:Below W.heap.size W W1):IsS154 w0 W1 g f0 f1 f2 f3:=h.grown (grown_of_below hw none) (by simp)
theorem IsS154.alloc {w0 W:World}{g:Nat}{f0:Int}{f1:List Int}{f2:List (S224)}{f3:Int}(h:IsS154 w0 W g f0 f1 f2 f3)(o:Obj):IsS154 w0 (W.alloc o) g f0 f1 f2 f3:=h.below (below_alloc (Below.refl _ _) o)
theorem IsS154.drewN {w0 W:World}{g:Nat}{f0:Int}{f1:List Int}{f2:List (S224)}{f3:Int}(h:IsS154 w0 W g f0 f1 f2 f3)(m:Nat):IsS154 w0 (W.drewN m) g f0 f1 f2 f3:=h
theorem IsS154.drew {w0 W:World}{g:Nat}{f0:Int}{f1:List Int}{f2:List (S224)}{f3:Int}(h:IsS154 w0 W g f0 f1 f2 f3):IsS154 w0 W.drew g f0 f1 f2 f3:=h
theorem IsS154.at_ {w0 W:World}{g:Nat}{f0:Int}{f1:List Int}{f2:List (S224)}{f3:Int}{w':World}{m:Nat}(hq:W.drewN m=w')(h:IsS154 w0 W g f0 f1 f2 f3):IsS154 w0 w' g f0 f1 f2 f3:=by subst hq;exact IsS154.drewN h m
theorem IsS154.own_ne {w0 W:World}{g:Nat}{f0:Int}{f1:List Int}{f2:List (S224)}{f3:Int}{α:Type}{d:Kd α}{e:Nat}{base:Nat}{ok:Nat->Prop}{v:Value}{xs:List α}(h:IsS154 w0 W g f0 f1 f2 f3)(ho:d.R e W base ok v xs)(ht:e≠154):some g≠v.ownBlock:=by
 obtain⟨A1,c1,A2,c2,hb,hg,hr1,hr2⟩:=h
 exact Kd.R_ne ho hb ht
theorem IsS154.lt {w0 W:World}{g:Nat}{f0:Int}{f1:List Int}{f2:List (S224)}{f3:Int}(h:IsS154 w0 W g f0 f1 f2 f3):g<W.heap.size:=by
 obtain⟨A1,c1,A2,c2,hb,hg,hr1,hr2⟩:=h
 exact blk_lt hb
theorem IsS154.ge {w0 W:World}{g:Nat}{f0:Int}{f1:List Int}{f2:List (S224)}{f3:Int}(h:IsS154 w0 W g f0 f1 f2 f3):w0.heap.size<=g:=by
 obtain⟨A1,c1,A2,c2,hb,hg,hr1,hr2⟩:=h
 exact hg
theorem IsS154.far {w0 W:World}{g:Nat}{f0:Int}{f1:List Int}{f2:List (S224)}{f3:Int}{p:Addr}(h:IsS154 w0 W g f0 f1 f2 f3)(hne:g≠p.block)(u:Value):IsS154 w0 (W.setCell p u) g f0 f1 f2 f3:=by
 obtain⟨A1,c1,A2,c2,hb,hg,hr1,hr2⟩:=h
 exact⟨A1,c1,A2,c2,blk_far hb hne u,hg,hr1,hr2⟩
end Go.Proofs.YtgccjgpdjkhpdaaGreat.F
namespace Go.Proofs.YtgccjgpdjkhpdaaGreat.B
open Go.RowKit Go.Proofs.YtgccjgpdjkhpdaaGreatW.PrintWords Go.Proofs.YtgccjgpdjkhpdaaGreatW.PrintLast Go.Proofs.YtgccjgpdjkhpdaaGreatW.PrintMore
set_option linter.unusedVariables false
set_option linter.unusedSimpArgs false
theorem alloc_set (w:World)(t:TypeId)(cs:Array Value)(i:Nat)(v:Value):(w.alloc (.cells cs t)).setCell ⟨w.heap.size,i,none⟩ v=w.alloc (.cells (cs.setIfInBounds i v) t):=by
 have e:((w.alloc (.cells cs t)).setCell ⟨w.heap.size,i,none⟩ v).heap=w.heap.push (.cells (cs.setIfInBounds i v) t):=by
  apply Array.ext_getElem?
  intro k
  by_cases hk:k=w.heap.size
  ·subst hk
   have h:=blk_set (heap_alloc_new w (.cells cs t)) i v
   simpa using h
  ·rw [Below.heap_setCell _ _ _ _ hk]
   by_cases hl:k<w.heap.size
   ·rw [Below.heap_alloc _ _ _ hl,Array.getElem?_push]
    simp [hk]
   ·have h1:(w.alloc (.cells cs t)).heap[k]? = none:=Array.getElem?_eq_none (by simp;omega)
    rw [h1]
    exact (Array.getElem?_eq_none (by simp;omega)).symm
 exact congrArg (fun hp=>({ w with heap:=hp }:World)) e
theorem newExc (w:World)(s:ByteArray)(v:Value) :
  Calls Tryz.prog 131 #[.string s,v] w fun e w'=>e=.returned (.agg #[.string s,.nilIface])/\Below w.heap.size w w':=by
 go_enter Tryz.func131,Tryz.ntmps131
 go_wp2
 exact bodyPost_ret (v:=.agg #[.string s,.nilIface]) (by simp [results,Tryz.results131,go_sem]) rfl ⟨rfl,(Below.refl _ _).alloc (Nat.le_refl _) _⟩
theorem C_nums {w:World}{g:Nat}{t:TypeId}{k:IntKind}{xs:List Int}(h:Blk w g t (nums k xs).toArray)(hl:xs.length<=9223372036854775807):Kd.C (Kd.int k) w (some ⟨g,0,none⟩) xs.length xs:=by
 refine Kd.C_of_reads (enc:=Value.int k) (d:=(0:Int)) (h1:=fun _=>rfl) ⟨rfl,hl,fun _=>⟨_,rfl,fun j hj=>?_⟩⟩
 have:=h.ucell (j:Int) (by omega) (by omega)
 rw [add_plain]
 simpa [rd] using this
theorem errNew (w:World)(s:ByteArray):Calls Tryz.prog 103 #[.string s] w fun e w'=>e=.returned (.iface 216 (.pointer (some ⟨w.heap.size,0,none⟩)))/\w'=w.alloc (.cells #[.string s] 218):=by
 go_enter Tryz.func103,Tryz.ntmps103
 go_wp2
 go_ret
 exact⟨rfl,rfl⟩
theorem newFmt (w:World)(v:Value):Calls Tryz.prog 89 #[v] w fun e w'=>(∃ x,e=.returned (.iface 208 x))/\Below w.heap.size w w':=by
 go_enter Tryz.func89,Tryz.ntmps89
 go_wp2_with (go_at_call 131;refine (newExc w _ v).mono ?_;rintro e w' ⟨rfl,hb⟩)
 go_ret
 exact⟨⟨_,rfl⟩,hb⟩
theorem wrapExc (w:World)(s:ByteArray)(t:TypeId)(x:Value) :
  Calls Tryz.prog 129 #[.string s,.iface t x] w fun e w'=>e=.returned (.agg #[.string s,.iface t x])/\Below w.heap.size w w':=by
 go_enter Tryz.func129,Tryz.ntmps129
 go_wp2
 exact bodyPost_ret (v:=.agg #[.string s,.iface t x]) (by simp [results,Tryz.results129,go_sem]) rfl ⟨rfl,(Below.refl _ _).alloc (Nat.le_refl _) _⟩
theorem wrapFmt (w:World)(t:TypeId)(x:Value):Calls Tryz.prog 87 #[.iface t x] w fun e w'=>(∃ y,e=.returned (.iface 208 y))/\Below w.heap.size w w':=by
 go_enter Tryz.func87,Tryz.ntmps87
 go_wp2_with (go_at_call 129;refine (wrapExc w _ t x).mono ?_;rintro e w' ⟨rfl,hb⟩)
 go_ret
 exact⟨⟨_,rfl⟩,hb⟩
theorem bmSet (w:World)(g gb:Nat)(wd ht rs x y o:Int)(xs:List Int)(N:Nat)
  (hg:Blk w g 201 #[.int .i64 wd,.int .i64 ht,.int .i64 rs,.slice (some ⟨gb,0,none⟩) N N]) (hb:Blk w gb 214 (nums .u32 xs).toArray) (hl:xs.length=N) (hN:N<=1000000000)
  (ho:y*rs=o) (h0:0<=o) (h1:0<=x) (h2:x<=100000000) (h3:o+x/32<(N:Int)) :
  Calls Tryz.prog 148 #[.pointer (some ⟨g,0,none⟩),.int .i64 x,.int .i64 y] w fun e w'=>e=.returned (.tuple #[])/\Blk w' gb 214 (nums .u32 (orBit xs o x)).toArray/\Turn w w' gb:=by
 have c2:w.cell? ⟨g,2,none⟩=some (.int .i64 rs):=hg.cell 2
 have c3:w.cell? ⟨g,3,none⟩=some (.slice (some ⟨gb,0,none⟩) N N):=hg.cell 3
 have c4:w.cell? ⟨gb,(o+x/32).toNat,none⟩=some (.int .u32 (rd xs (o+x/32))):=hb.ucell _ (by omega) (by omega)
 have c5:=hb.frozen (o+x/32).toNat
 have hw:wrap64 (y*rs)=o:=by rw [ho];unfold wrap64;omega
 have HB:=Aside0.mk hb
 have HO:=Aside0.mk ho
 have HL:=Aside0.mk hl
 clear hg hb ho hl
 go_enter Tryz.func148,Tryz.ntmps148
 go_wp2
 go_end0
 exact⟨rfl,HB.out.uset _ _,Turn.set _ _ _ _⟩
def xorBit (xs:List Int)(o x:Int):List Int:=xs.set (o+x/32).toNat (Go.bits .xor .u32 (rd xs (o+x/32)) (2 ^ (x%32).toNat%4294967296))
theorem bmFlip (w:World)(g gb:Nat)(wd ht rs x y o:Int)(xs:List Int)(N:Nat)
  (hg:Blk w g 201 #[.int .i64 wd,.int .i64 ht,.int .i64 rs,.slice (some ⟨gb,0,none⟩) N N]) (hb:Blk w gb 214 (nums .u32 xs).toArray) (hl:xs.length=N) (hN:N<=1000000000)
  (ho:y*rs=o) (h0:0<=o) (h1:0<=x) (h2:x<=100000000) (h3:o+x/32<(N:Int)) :
  Calls Tryz.prog 140 #[.pointer (some ⟨g,0,none⟩),.int .i64 x,.int .i64 y] w fun e w'=>e=.returned (.tuple #[])/\Blk w' gb 214 (nums .u32 (xorBit xs o x)).toArray/\Turn w w' gb:=by
 have c2:w.cell? ⟨g,2,none⟩=some (.int .i64 rs):=hg.cell 2
 have c3:w.cell? ⟨g,3,none⟩=some (.slice (some ⟨gb,0,none⟩) N N):=hg.cell 3
 have c4:w.cell? ⟨gb,(o+x/32).toNat,none⟩=some (.int .u32 (rd xs (o+x/32))):=hb.ucell _ (by omega) (by omega)
 have c5:=hb.frozen (o+x/32).toNat
 have hw:wrap64 (y*rs)=o:=by rw [ho];unfold wrap64;omega
 have HB:=Aside0.mk hb
 have HO:=Aside0.mk ho
 have HL:=Aside0.mk hl
 clear hg hb ho hl
 go_enter Tryz.func140,Tryz.ntmps140
 go_wp2
 go_end0
 exact⟨rfl,HB.out.uset _ _,Turn.set _ _ _ _⟩
theorem bmGet (w:World)(g gb:Nat)(wd ht rs x y o:Int)(xs:List Int)(N:Nat)
  (hg:Blk w g 201 #[.int .i64 wd,.int .i64 ht,.int .i64 rs,.slice (some ⟨gb,0,none⟩) N N]) (hb:Blk w gb 214 (nums .u32 xs).toArray) (hl:xs.length=N) (hN:N<=1000000000)
  (ho:y*rs=o) (h0:0<=o) (h1:0<=x) (h2:x<=100000000) (h3:o+x/32<(N:Int)) (h4:x<wd) (h5:0<=y) (h6:y<ht) :
  Calls Tryz.prog 94 #[.pointer (some ⟨g,0,none⟩),.int .i64 x,.int .i64 y] w fun e w'=>e=.returned (.bool (Go.bits .and .u32 (rd xs (o+x/32)/2 ^ (x%32).toNat) 1 != 0))/\w=w':=by
 have c0:w.cell? ⟨g,0,none⟩=some (.int .i64 wd):=hg.cell 0
 have c1:w.cell? ⟨g,1,none⟩=some (.int .i64 ht):=hg.cell 1
 have c2:w.cell? ⟨g,2,none⟩=some (.int .i64 rs):=hg.cell 2
 have c3:w.cell? ⟨g,3,none⟩=some (.slice (some ⟨gb,0,none⟩) N N):=hg.cell 3
 have c4:w.cell? ⟨gb,(o+x/32).toNat,none⟩=some (.int .u32 (rd xs (o+x/32))):=hb.ucell _ (by omega) (by omega)
 have hw:wrap64 (y*rs)=o:=by rw [ho];unfold wrap64;omega
 have HB:=Aside0.mk hb
 have HO:=Aside0.mk ho
 have HL:=Aside0.mk hl
 clear hg hb ho hl
 go_enter Tryz.func94,Tryz.ntmps94
 go_wp2
 go_ret
 exact⟨rfl,rfl⟩
end Go.Proofs.YtgccjgpdjkhpdaaGreat.B
namespace Go.Proofs.YtgccjgpdjkhpdaaGreat.F
open Go.RowKit Go.Proofs.YtgccjgpdjkhpdaaGreatW.PrintWords Go.Proofs.YtgccjgpdjkhpdaaGreatW.PrintLast Go.Proofs.YtgccjgpdjkhpdaaGreatW.PrintMore
attribute [local go_sem] max2_int min2_int max_two min_two max_three min_three max_four min_four
set_option linter.unusedVariables false
set_option linter.unusedSimpArgs false
def decoder_VERSION_DECODE_INFO.f :Option (List Int):=some (([31892,34236,39577,42195,48118,51042,55367,58893,63784,68472,70749,76311,79154,84390,87683,92361,96236,102084,102881,110507,110734,117786,119615,126325,127568,133589,136944,141498,145311,150283,152622,158308,161089,167017]:List Int))
set_option maxHeartbeats 8000000 in
set_option maxRecDepth 100000 in
theorem decoder_VERSION_DECODE_INFO.calls  (r:List Int)(w:World)(h:decoder_VERSION_DECODE_INFO.f =some r) :
  Calls Tryz.prog 127 #[] w fun e w'=>∃ v0_:Value,e=.returned (v0_)/\Kd.R (Kd.int .i64) 3 w' w.heap.size (fun _=>True) v0_ r/\Below w.heap.size w w':=by
 have HB:=Aside0.mk (Below.refl w.heap.size w)
 have H:(some (([31892,34236,39577,42195,48118,51042,55367,58893,63784,68472,70749,76311,79154,84390,87683,92361,96236,102084,102881,110507,110734,117786,119615,126325,127568,133589,136944,141498,145311,150283,152622,158308,161089,167017]:List Int)))=some r:=h
 clear h
 obtain⟨y140,hy140⟩:∃ y_:List Int,y_=(([31892,34236,39577,42195,48118,51042,55367,58893,63784,68472,70749,76311,79154,84390,87683,92361,96236,102084,102881,110507,110734,117786,119615,126325,127568,133589,136944,141498,145311,150283,152622,158308,161089,167017]:List Int)):=⟨_,rfl⟩
 replace H:(some y140)=some r:=by first | (rw [hy140];with_reducible exact H) | (have H2_:=(Option.bind_some _ _).symm.trans H;rw [hy140];with_reducible exact H2_) | (have H2_:=(Option.bind_some _ _).symm.trans H;with_reducible exact H2_) | with_reducible exact H | (rw [hy140];exact H) | exact H
 have Ny140:=Aside0.mk hy140
 clear hy140
 obtain rfl:=Option.some.inj H
 go_enter Tryz.func127,Tryz.ntmps127
 go_wp2_with (first | ((with_reducible refine gate_dst (N:=1) rfl ?_);refine Kd.R_lit (Kd.int .i64) _ 3 ?hg (N:=1) ?hd (xs:=([31892,34236,39577,42195,48118,51042,55367,58893,63784,68472,70749,76311,79154,84390,87683,92361,96236,102084,102881,110507,110734,117786,119615,126325,127568,133589,136944,141498,145311,150283,152622,158308,161089,167017]:List Int)) (inner:=[.int .i64 31892,.int .i64 34236,.int .i64 39577,.int .i64 42195,.int .i64 48118,.int .i64 51042,.int .i64 55367,.int .i64 58893,.int .i64 63784,.int .i64 68472,.int .i64 70749,.int .i64 76311,.int .i64 79154,.int .i64 84390,.int .i64 87683,.int .i64 92361,.int .i64 96236,.int .i64 102084,.int .i64 102881,.int .i64 110507,.int .i64 110734,.int .i64 117786,.int .i64 119615,.int .i64 126325,.int .i64 127568,.int .i64 133589,.int .i64 136944,.int .i64 141498,.int .i64 145311,.int .i64 150283,.int .i64 152622,.int .i64 158308,.int .i64 161089,.int .i64 167017]) (ok:=fun _=>True) (okp:=fun _=>True) ?hr ?hp (fun _ hk=>hk) trivial (Below.refl _ _) (Nat.le_refl _) (by simp) ?_;(case hd=>rfl);(case hg=>rfl);(case hr=>first | (go_simp;done) | (go_simp;rfl));(case hp=>exact (Reps.one (show Kd.M (Kd.int .i64) _ _ _ 31892 [.int .i64 31892] from rfl) (Reps.one (show Kd.M (Kd.int .i64) _ _ _ 34236 [.int .i64 34236] from rfl) (Reps.one (show Kd.M (Kd.int .i64) _ _ _ 39577 [.int .i64 39577] from rfl) (Reps.one (show Kd.M (Kd.int .i64) _ _ _ 42195 [.int .i64 42195] from rfl) (Reps.one (show Kd.M (Kd.int .i64) _ _ _ 48118 [.int .i64 48118] from rfl) (Reps.one (show Kd.M (Kd.int .i64) _ _ _ 51042 [.int .i64 51042] from rfl) (Reps.one (show Kd.M (Kd.int .i64) _ _ _ 55367 [.int .i64 55367] from rfl) (Reps.one (show Kd.M (Kd.int .i64) _ _ _ 58893 [.int .i64 58893] from rfl) (Reps.one (show Kd.M (Kd.int .i64) _ _ _ 63784 [.int .i64 63784] from rfl) (Reps.one (show Kd.M (Kd.int .i64) _ _ _ 68472 [.int .i64 68472] from rfl) (Reps.one (show Kd.M (Kd.int .i64) _ _ _ 70749 [.int .i64 70749] from rfl) (Reps.one (show Kd.M (Kd.int .i64) _ _ _ 76311 [.int .i64 76311] from rfl) (Reps.one (show Kd.M (Kd.int .i64) _ _ _ 79154 [.int .i64 79154] from rfl) (Reps.one (show Kd.M (Kd.int .i64) _ _ _ 84390 [.int .i64 84390] from rfl) (Reps.one (show Kd.M (Kd.int .i64) _ _ _ 87683 [.int .i64 87683] from rfl) (Reps.one (show Kd.M (Kd.int .i64) _ _ _ 92361 [.int .i64 92361] from rfl) (Reps.one (show Kd.M (Kd.int .i64) _ _ _ 96236 [.int .i64 96236] from rfl) (Reps.one (show Kd.M (Kd.int .i64) _ _ _ 102084 [.int .i64 102084] from rfl) (Reps.one (show Kd.M (Kd.int .i64) _ _ _ 102881 [.int .i64 102881] from rfl) (Reps.one (show Kd.M (Kd.int .i64) _ _ _ 110507 [.int .i64 110507] from rfl) (Reps.one (show Kd.M (Kd.int .i64) _ _ _ 110734 [.int .i64 110734] from rfl) (Reps.one (show Kd.M (Kd.int .i64) _ _ _ 117786 [.int .i64 117786] from rfl) (Reps.one (show Kd.M (Kd.int .i64) _ _ _ 119615 [.int .i64 119615] from rfl) (Reps.one (show Kd.M (Kd.int .i64) _ _ _ 126325 [.int .i64 126325] from rfl) (Reps.one (show Kd.M (Kd.int .i64) _ _ _ 127568 [.int .i64 127568] from rfl) (Reps.one (show Kd.M (Kd.int .i64) _ _ _ 133589 [.int .i64 133589] from rfl) (Reps.one (show Kd.M (Kd.int .i64) _ _ _ 136944 [.int .i64 136944] from rfl) (Reps.one (show Kd.M (Kd.int .i64) _ _ _ 141498 [.int .i64 141498] from rfl) (Reps.one (show Kd.M (Kd.int .i64) _ _ _ 145311 [.int .i64 145311] from rfl) (Reps.one (show Kd.M (Kd.int .i64) _ _ _ 150283 [.int .i64 150283] from rfl) (Reps.one (show Kd.M (Kd.int .i64) _ _ _ 152622 [.int .i64 152622] from rfl) (Reps.one (show Kd.M (Kd.int .i64) _ _ _ 158308 [.int .i64 158308] from rfl) (Reps.one (show Kd.M (Kd.int .i64) _ _ _ 161089 [.int .i64 161089] from rfl) (Reps.one (show Kd.M (Kd.int .i64) _ _ _ 167017 [.int .i64 167017] from rfl) (Reps.none _ _))))))))))))))))))))))))))))))))))));intro v141 w1 ho2 hb hg_ hnew_;clear hg_ hnew_;(first | rw [<- Ny140.out] at ho2 | (simp only [Int.reduceToNat] at ho2;rw [<- Ny140.out] at ho2));have n0_:=Aside0.mk (Kd.R_lower ho2 (below_size (by repeat (first | (with_reducible first | exact HB.out | apply below_alloc | apply pw_below_drewN | apply below_drew1) | exact HB.out))));have n1_:=Aside0.mk (below_step (by repeat (first | (with_reducible first | exact HB.out | apply below_alloc | apply pw_below_drewN | apply below_drew1) | exact HB.out)) hb);clear HB;have HO142:=n0_;have HB:=n1_;clear n0_ n1_;clear hb ho2))
 go_ret
 exact⟨_,by first | rfl | (simp [errW_none,errW_some]<;>rfl) | (simp [*,errW_none,errW_some]<;>rfl),by (with_reducible repeat (first | apply Kd.R_alloc | apply Kd.R_drewN | apply Kd.R_drew));exact HO142.out,by repeat (first | (with_reducible first | exact HB.out | apply below_alloc | apply pw_below_drewN | apply below_drew1) | exact HB.out)⟩
end Go.Proofs.YtgccjgpdjkhpdaaGreat.F
namespace Go.Proofs.YtgccjgpdjkhpdaaGreat.B
open Go.RowKit Go.Proofs.YtgccjgpdjkhpdaaGreatW.PrintWords Go.Proofs.YtgccjgpdjkhpdaaGreatW.PrintLast Go.Proofs.YtgccjgpdjkhpdaaGreatW.PrintMore
set_option linter.unusedVariables false
set_option linter.unusedSimpArgs false
def bval (l:List Bool):Nat:=l.foldl (fun a b=>2*a+b.toNat) 0
theorem bvalF (l:List Bool):∀ a,l.foldl (fun a b=>2*a+b.toNat) a=a*2 ^ l.length+bval l:=by
 induction l with
 | nil=>intro a;simp [bval]
 | cons b l ih=>
  intro a
  unfold bval
  rw [List.foldl_cons,List.foldl_cons,ih,ih,List.length_cons,Nat.pow_succ,Nat.add_mul,Nat.add_mul,Nat.mul_zero,Nat.zero_mul,Nat.zero_add,<- Nat.add_assoc,Nat.mul_assoc,Nat.mul_left_comm,Nat.mul_comm (2 ^ l.length) 2]
theorem bval_append (k l:List Bool):bval (k++l)=bval k*2 ^ l.length+bval l:=by
 unfold bval
 rw [List.foldl_append]
 exact bvalF l _
theorem bval_lt (l:List Bool):bval l<2 ^ l.length:=by
 induction l with
 | nil=>decide
 | cons b l ih=>
  rw [show b :: l=[b]++l from rfl,bval_append,List.length_append,Nat.pow_add,show bval [b]=b.toNat from by simp [bval]]
  have:b.toNat<=1:=Bool.toNat_le b
  have h2:b.toNat*2 ^ l.length<=1*2 ^ l.length:=Nat.mul_le_mul_right _ this
  rw [show (2:Nat) ^ [b].length=2 from rfl,Nat.two_mul]
  omega
def byteBits (x:Nat):List Bool:=(List.range 8).map fun i=>x.testBit (7-i)
theorem byteBits_len (x:Nat):(byteBits x).length=8:=by simp [byteBits]
theorem byte_look:∀ x:Fin 256,∀ o:Fin 9,∀ t:Fin 9,o.val+t.val<=8->bval (((byteBits x.val).drop o.val).take t.val)=x.val/2 ^ (8-o.val-t.val)%2 ^ t.val:=by decide +kernel
theorem byte_seg (x o t:Nat)(hx:x<256)(h:o+t<=8):bval (((byteBits x).drop o).take t)=x/2 ^ (8-o-t)%2 ^ t:=byte_look ⟨x,hx⟩ ⟨o,by omega⟩ ⟨t,by omega⟩ h
def streamBits (xs:List Nat):List Bool:=xs.flatMap byteBits
theorem streamBits_len (xs:List Nat):(streamBits xs).length=8*xs.length:=by
 unfold streamBits
 induction xs with
 | nil=>rfl
 | cons x xs ih=>rw [List.flatMap_cons,List.length_append,ih,byteBits_len,List.length_cons];omega
theorem stream_drop:∀ (xs:List Nat) (i:Nat),(streamBits xs).drop (8*i)=streamBits (xs.drop i):=by
 intro xs
 induction xs with
 | nil=>intro i;simp [streamBits]
 | cons x xs ih=>
  intro i
  cases i with
  | zero=>rfl
  | succ i=>
   have:streamBits (x :: xs)=byteBits x++streamBits xs:=by simp [streamBits]
   rw [this,show 8*(i+1)=(byteBits x).length+8*i by rw [byteBits_len];omega,<- List.drop_drop,List.drop_left,ih]
   rfl
def seg (bs:List Bool)(s k:Nat):List Bool:=(bs.drop s).take k
theorem seg_len (bs:List Bool)(s k:Nat)(h:s+k<=bs.length):(seg bs s k).length=k:=by unfold seg;simp;omega
theorem seg_split (bs:List Bool)(s a b:Nat):seg bs s (a+b)=seg bs s a++seg bs (s+a) b:=by
 unfold seg
 rw [List.take_add,List.drop_drop]
theorem stream_seg (xs:List Nat)(i o t:Nat)(hi:i<xs.length)(h:o+t<=8):seg (streamBits xs) (8*i+o) t=((byteBits (xs.getD i 0)).drop o).take t:=by
 unfold seg
 rw [<- List.drop_drop,stream_drop,List.drop_eq_getElem_cons hi]
 have:streamBits (xs[i] :: xs.drop (i+1))=byteBits xs[i]++streamBits (xs.drop (i+1)):=by unfold streamBits;rw [List.flatMap_cons]
 rw [this,List.drop_append_of_le_length (by rw [byteBits_len];omega),List.take_append_of_le_length (by rw [List.length_drop,byteBits_len];omega)]
 simp [List.getD,List.getElem?_eq_getElem hi]
def rdBits (xs:List Nat)(s k:Nat):Nat:=bval (seg (streamBits xs) s k)
theorem rdBits_lt (xs:List Nat)(s k:Nat):rdBits xs s k<2 ^ k:=by
 refine Nat.lt_of_lt_of_le (bval_lt _) (Nat.pow_le_pow_right (by decide) ?_)
 unfold seg
 simp
 omega
theorem rdBits_split (xs:List Nat)(s a b:Nat)(h:s+a+b<=8*xs.length):rdBits xs s (a+b)=rdBits xs s a*2 ^ b+rdBits xs (s+a) b:=by
 unfold rdBits
 rw [seg_split,bval_append,seg_len _ _ _ (by rw [streamBits_len];omega)]
theorem rdBits_byte (xs:List Nat)(i o t:Nat)(hi:i<xs.length)(h:o+t<=8)(hx:xs.getD i 0<256):rdBits xs (8*i+o) t=xs.getD i 0/2 ^ (8-o-t)%2 ^ t:=by
 unfold rdBits
 rw [stream_seg xs i o t hi h,byte_seg _ _ _ hx h]
theorem rdBits_zero (xs:List Nat)(s:Nat):rdBits xs s 0=0:=by
 unfold rdBits seg
 simp [bval]
def alTab:List Nat:=[48,49,50,51,52,53,54,55,56,57,65,66,67,68,69,70,71,72,73,74,75,76,77,78,79,80,81,82,83,84,85,86,87,88,89,90,32,36,37,42,43,45,46,47,58]
def alCh (n:Nat):Int:=(alTab.getD n 0:Nat)
def numSeg (bs:List Nat)(pos cnt:Nat)(acc:List Int):Option (List Int×Nat) :=
 if 3<=cnt then
  if pos+10<=8*bs.length/\rdBits bs pos 10<1000 then numSeg bs (pos+10) (cnt-3) (acc++[48+((rdBits bs pos 10/100:Nat):Int)]++[48+((rdBits bs pos 10/10%10:Nat):Int)]++[48+((rdBits bs pos 10%10:Nat):Int)])
  else none
 else if cnt=2 then
  if pos+7<=8*bs.length/\rdBits bs pos 7<100 then some (acc++[48+((rdBits bs pos 7/10:Nat):Int)]++[48+((rdBits bs pos 7%10:Nat):Int)],pos+7) else none
 else if cnt=1 then
  if pos+4<=8*bs.length/\rdBits bs pos 4<10 then some (acc++[48+((rdBits bs pos 4:Nat):Int)],pos+4) else none
 else some (acc,pos)
termination_by cnt
def alSeg (bs:List Nat)(pos cnt:Nat)(acc:List Int):Option (List Int×Nat) :=
 if 2<=cnt then
  if pos+11<=8*bs.length/\rdBits bs pos 11/45<45 then alSeg bs (pos+11) (cnt-2) (acc++[alCh (rdBits bs pos 11/45)]++[alCh (rdBits bs pos 11%45)])
  else none
 else if cnt=1 then
  if pos+6<=8*bs.length/\rdBits bs pos 6<45 then some (acc++[alCh (rdBits bs pos 6)],pos+6) else none
 else some (acc,pos)
termination_by cnt
def byteSeg (bs:List Nat)(pos cnt:Nat):List Int:=(List.range cnt).map fun i=>(rdBits bs (pos+8*i) 8:Int)
def gs1:List Int->List Int
 | []=>[]
 | [x]=>[if x=37 then 29 else x]
 | x :: y :: l=>if x=37 then (if y=37 then 37 :: gs1 l else 29 :: gs1 (y :: l)) else x :: gs1 (y :: l)
def cntBits (mode v:Nat):Nat :=
 if mode=1 then (if v<=9 then 10 else if v<=26 then 12 else 14)
 else if mode=2 then (if v<=9 then 9 else if v<=26 then 11 else 13)
 else (if v<=9 then 8 else 16)
structure PS where
 pos:Nat
 out:List Int
 segs:List (List Int)
 fc:Bool
 sq:Int
 par:Int
def alOut (fc:Bool)(out ys:List Int):List Int:=if fc then out++gs1 (ys.drop out.length) else ys
inductive Rd (bs:List Nat)(v:Nat):PS->Option PS->Prop
 | done (st:PS):st.pos<=8*bs.length->8*bs.length<st.pos+4->Rd bs v st (some st)
 | stop (st:PS):st.pos+4<=8*bs.length->rdBits bs st.pos 4=0->Rd bs v st (some { st with pos:=st.pos+4 })
 | fnc (st:PS) (R:Option PS):st.pos+4<=8*bs.length->rdBits bs st.pos 4=5->Rd bs v { st with pos:=st.pos+4,fc:=true } R->Rd bs v st R
 | part (st:PS) (R:Option PS):st.pos+20<=8*bs.length->rdBits bs st.pos 4=3->Rd bs v { st with pos:=st.pos+20,sq:=rdBits bs (st.pos+4) 8,par:=rdBits bs (st.pos+12) 8 } R->Rd bs v st R
 | short (st:PS) (m:Nat):st.pos+4<=8*bs.length->rdBits bs st.pos 4=m->m=1\/m=2\/m=4->8*bs.length<st.pos+4+cntBits m v->Rd bs v st none
 | num (st:PS) (ys:List Int) (p:Nat) (R:Option PS):rdBits bs st.pos 4=1->st.pos+4+cntBits 1 v<=8*bs.length->
   numSeg bs (st.pos+4+cntBits 1 v) (rdBits bs (st.pos+4) (cntBits 1 v)) st.out=some (ys,p)->Rd bs v { st with pos:=p,out:=ys } R->Rd bs v st R
 | numBad (st:PS):rdBits bs st.pos 4=1->st.pos+4+cntBits 1 v<=8*bs.length->numSeg bs (st.pos+4+cntBits 1 v) (rdBits bs (st.pos+4) (cntBits 1 v)) st.out=none->Rd bs v st none
 | al (st:PS) (ys:List Int) (p:Nat) (R:Option PS):rdBits bs st.pos 4=2->st.pos+4+cntBits 2 v<=8*bs.length->
   alSeg bs (st.pos+4+cntBits 2 v) (rdBits bs (st.pos+4) (cntBits 2 v)) st.out=some (ys,p)->Rd bs v { st with pos:=p,out:=alOut st.fc st.out ys } R->Rd bs v st R
 | alBad (st:PS):rdBits bs st.pos 4=2->st.pos+4+cntBits 2 v<=8*bs.length->alSeg bs (st.pos+4+cntBits 2 v) (rdBits bs (st.pos+4) (cntBits 2 v)) st.out=none->Rd bs v st none
 | byte (st:PS) (n:Nat) (R:Option PS):rdBits bs st.pos 4=4->st.pos+4+cntBits 4 v<=8*bs.length->rdBits bs (st.pos+4) (cntBits 4 v)=n->st.pos+4+cntBits 4 v+8*n<=8*bs.length->
   Rd bs v { st with pos:=st.pos+4+cntBits 4 v+8*n,out:=st.out++byteSeg bs (st.pos+4+cntBits 4 v) n,segs:=st.segs++[byteSeg bs (st.pos+4+cntBits 4 v) n] } R->Rd bs v st R
 | byteBad (st:PS) (n:Nat):rdBits bs st.pos 4=4->st.pos+4+cntBits 4 v<=8*bs.length->rdBits bs (st.pos+4) (cntBits 4 v)=n->8*bs.length<st.pos+4+cntBits 4 v+8*n->Rd bs v st none
end Go.Proofs.YtgccjgpdjkhpdaaGreat.B
namespace Go.Proofs.YtgccjgpdjkhpdaaGreat.F
open Go.RowKit Go.Proofs.YtgccjgpdjkhpdaaGreatW.PrintWords Go.Proofs.YtgccjgpdjkhpdaaGreatW.PrintLast Go.Proofs.YtgccjgpdjkhpdaaGreatW.PrintMore
attribute [local go_sem] max2_int min2_int max_two min_two max_three min_three max_four min_four
set_option linter.unusedVariables false
set_option linter.unusedSimpArgs false
def spec_QRDimension.f (a0:Int):Option (Int):=some (wrap64 (17+(wrap64 (4*a0))))
set_option maxHeartbeats 8000000 in
set_option maxRecDepth 100000 in
theorem spec_QRDimension.calls (a0:Int)(r:Int)(w:World)(h:spec_QRDimension.f a0=some r) :
  Calls Tryz.prog 46 #[.int .i64 a0] w fun e w'=>e=.returned (.int .i64 r)/\Drawn0 w w':=by
 have H:(some (wrap64 (17+(wrap64 (4*a0)))))=some r:=h
 clear h
 obtain rfl:=Option.some.inj H
 go_enter Tryz.func46,Tryz.ntmps46
 go_wp2
 go_ret
 exact⟨by first | rfl | (simp;done) | (simp [*];done),by repeat (first | exact Drawn0.refl _ | apply Drawn0.step)⟩
def spec_qrFar.f (a0:Int)(a1:Int)(a2:Int)(a3:Int):Option (Int):=some (mx (mx (wrap64 (a0-a2)) (wrap64 (a2-a0))) (mx (wrap64 (a1-a3)) (wrap64 (a3-a1))))
set_option maxHeartbeats 8000000 in
set_option maxRecDepth 100000 in
theorem spec_qrFar.calls (a0:Int)(a1:Int)(a2:Int)(a3:Int)(r:Int)(w:World)(h:spec_qrFar.f a0 a1 a2 a3=some r) :
  Calls Tryz.prog 98 #[.int .i64 a0,.int .i64 a1,.int .i64 a2,.int .i64 a3] w fun e w'=>e=.returned (.int .i64 r)/\Below w.heap.size w w':=by
 have HB:=Aside0.mk (Below.refl w.heap.size w)
 have H:(some (mx (mx (wrap64 (a0-a2)) (wrap64 (a2-a0))) (mx (wrap64 (a1-a3)) (wrap64 (a3-a1)))))=some r:=h
 clear h
 obtain⟨ji5,hji5⟩:∃ j_:Int,(mx (wrap64 (a0-a2)) (wrap64 (a2-a0)))=j_:=⟨_,rfl⟩
 replace H:(some (mx (ji5) (mx (wrap64 (a1-a3)) (wrap64 (a3-a1)))))=some r:=by first | (rw [hji5] at H;exact H) | (simp only [hji5] at H ⊢;exact H)
 have hji5_:(if (wrap64 (a0-a2))<(wrap64 (a2-a0)) then (wrap64 (a2-a0)) else (wrap64 (a0-a2)))=ji5:=hji5
 obtain⟨ji6,hji6⟩:∃ j_:Int,(mx (wrap64 (a1-a3)) (wrap64 (a3-a1)))=j_:=⟨_,rfl⟩
 replace H:(some (mx (ji5) (ji6)))=some r:=by first | (rw [hji6] at H;exact H) | (simp only [hji6] at H ⊢;exact H)
 have hji6_:(if (wrap64 (a1-a3))<(wrap64 (a3-a1)) then (wrap64 (a3-a1)) else (wrap64 (a1-a3)))=ji6:=hji6
 obtain⟨ji7,hji7⟩:∃ j_:Int,(mx (ji5) (ji6))=j_:=⟨_,rfl⟩
 replace H:(some ji7)=some r:=by first | (rw [hji7] at H;exact H) | (simp only [hji7] at H ⊢;exact H)
 have hji7_:(if (ji5)<(ji6) then (ji6) else (ji5))=ji7:=hji7
 obtain rfl:=Option.some.inj H
 go_enter Tryz.func98,Tryz.ntmps98
 go_wp2
 go_ret
 exact⟨by first | rfl | (simp [errW_none,errW_some]<;>rfl) | (simp only [<- hji5,<- hji6,<- hji7];first | rfl | (simp [errW_none,errW_some]<;>rfl)) | (simp [*,errW_none,errW_some]<;>rfl),by repeat (first | (with_reducible first | exact HB.out | apply below_alloc | apply pw_below_drewN | apply below_drew1) | exact HB.out)⟩
end Go.Proofs.YtgccjgpdjkhpdaaGreat.F
