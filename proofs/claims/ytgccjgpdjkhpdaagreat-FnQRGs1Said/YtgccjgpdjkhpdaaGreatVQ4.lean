import Derived.Test.YtgccjgpdjkhpdaaGreatProg
import Derived.Below
import Derived.Deep.Draws
import Derived.Deep.AppendLies
import Derived.Maps.AppendAt
import Derived.OwnWalk
import Derived.Laws.BytesArg
import Derived.Laws.MakeOwn
import Derived.Laws.OwnMore
import Derived.Deep.OwnRows
import Derived.Tactics
import Derived.Lib.ConvBytes
import Derived.Laws.Slices
import Derived.WalkKit
import Derived.KernelRfl
import Derived.RowKit3
import Derived.Deep.LoopGhost
import Derived.Deep.QuietTactic
import Derived.BigQuiet
import Derived.WideLaws
import Derived.Deep.DeepCutAuto
import Derived.Deep.CutBlock
import Derived.Deep.RegionHeld3
import Derived.Laws.Rows
import Derived.Lib.AppendStr
import Derived.ArgAppend
import Derived.Laws.IdiomCopy
import Derived.OrdersHeld
import Derived.Laws.BitsLemmas
import Derived.RowKit
import Derived.Laws.StructEq
import Derived.Deep.RegionWith
import Derived.Deep.SlicePairs
import Derived.Test.YtgccjgpdjkhpdaaGreatVQ25
/-! Own texts of this claim, part 4. -/
namespace Go.Proofs.YtgccjgpdjkhpdaaGreat.F
open Go.RowKit Go.Proofs.YtgccjgpdjkhpdaaGreatW.PrintWords Go.Proofs.YtgccjgpdjkhpdaaGreatW.PrintLast Go.Proofs.YtgccjgpdjkhpdaaGreatW.PrintMore
attribute [local go_sem] max2_int min2_int max_two min_two max_three min_three max_four min_four
set_option linter.unusedVariables false
set_option linter.unusedSimpArgs false
theorem k98_mk (w:World)(x:S98){A1:Option Addr}{c1:Nat}(l1:x.f1.length<=c1)(g1:(Kd.int .u8).C w A1 x.f1.length x.f1):k98.K w x [.int .i64 x.f0,.slice A1 x.f1.length c1]:=⟨[.int .i64 x.f0],[.slice A1 x.f1.length c1],rfl,rfl,⟨A1,c1,rfl,l1,g1⟩⟩
end Go.Proofs.YtgccjgpdjkhpdaaGreat.F
namespace Go.Proofs.YtgccjgpdjkhpdaaGreat.B
open Go.RowKit Go.Proofs.YtgccjgpdjkhpdaaGreatW.PrintWords Go.Proofs.YtgccjgpdjkhpdaaGreatW.PrintLast Go.Proofs.YtgccjgpdjkhpdaaGreatW.PrintMore
set_option linter.unusedVariables false
set_option linter.unusedSimpArgs false
theorem bval_natBits (n k:Nat):bval (natBits n k)=n%2 ^ k:=by
 induction k generalizing n with
 | zero=>simp [natBits,bval,Nat.mod_one]
 | succ k ih=>
  rw [natBits_succ,bval_append,ih]
  have h1:bval [n.testBit 0]=n%2:=by
   simp [bval,Nat.testBit_zero]
   rcases Nat.mod_two_eq_zero_or_one n with h | h<;>simp [h]
  rw [h1,show (2:Nat) ^ [n.testBit 0].length=2 from rfl,show 2 ^ (k+1)=2*2 ^ k by rw [Nat.pow_succ,Nat.mul_comm]]
  have h3:=Nat.mod_mul (a:=2) (b:=2 ^ k) (x:=n)
  omega
theorem rd_at (bs:List Nat)(pre post:List Bool)(n k:Nat)(h:streamBits bs=pre++(natBits n k++post))(hn:n<2 ^ k):rdBits bs pre.length k=n:=by
 unfold rdBits seg
 rw [h,List.drop_left,List.take_left' (natBits_len n k),bval_natBits,Nat.mod_eq_of_lt hn]
theorem room_at (bs:List Nat)(pre post:List Bool)(n k:Nat)(h:streamBits bs=pre++(natBits n k++post)):pre.length+k<=8*bs.length:=by
 have:=congrArg List.length h
 rw [streamBits_len,List.length_append,List.length_append,natBits_len] at this
 omega
def numData:List Int->List Bool
 | a :: b :: c :: l=>natBits ((a-48)*100+(b-48)*10+(c-48)).toNat 10++numData l
 | [a,b]=>natBits ((a-48)*10+(b-48)).toNat 7
 | [a]=>natBits (a-48).toNat 4
 | []=>[]
theorem num_seg:∀ (t:List Int) (bs:List Nat) (pre post:List Bool) (acc:List Int),streamBits bs=pre++(numData t++post)->(∀ x∈t,isDig x)->
  numSeg bs pre.length t.length acc=some (acc++t,pre.length+(numData t).length):=by
 intro t
 induction t using numData.induct with
 | case1 a b c l ih=>
  intro bs pre post acc h hd
  obtain⟨ha,ha2⟩:=hd a (by simp)
  obtain⟨hb,hb2⟩:=hd b (by simp)
  obtain⟨hc,hc2⟩:=hd c (by simp)
  rw [numData,List.append_assoc] at h
  obtain⟨n,hn⟩:∃ n,((a-48)*100+(b-48)*10+(c-48)).toNat=n:=⟨_,rfl⟩
  rw [hn] at h
  have hn1:n<1000:=by omega
  have hr:=rd_at bs pre _ n 10 h (by omega)
  have hm:=room_at bs pre _ n 10 h
  rw [numSeg,if_pos (by simp),hr,if_pos ⟨hm,hn1⟩]
  have hi:=ih bs (pre++natBits n 10) post (acc++[48+((n/100:Nat):Int)]++[48+((n/10%10:Nat):Int)]++[48+((n%10:Nat):Int)]) (by rw [h];simp) (fun x hx=>hd x (by simp [hx]))
  rw [List.length_append,natBits_len] at hi
  rw [show (a :: b :: c :: l).length-3=l.length by simp,hi,numData,hn]
  rw [show (48+((n/100:Nat):Int))=a by omega,show (48+((n/10%10:Nat):Int))=b by omega,show (48+((n%10:Nat):Int))=c by omega]
  simp [natBits_len,Nat.add_assoc]
 | case2 a b=>
  intro bs pre post acc h hd
  obtain⟨ha,ha2⟩:=hd a (by simp)
  obtain⟨hb,hb2⟩:=hd b (by simp)
  rw [numData] at h
  obtain⟨n,hn⟩:∃ n,((a-48)*10+(b-48)).toNat=n:=⟨_,rfl⟩
  rw [hn] at h
  have hr:=rd_at bs pre _ n 7 h (by omega)
  have hm:=room_at bs pre _ n 7 h
  rw [numSeg,if_neg (by simp),if_pos (by simp),hr,if_pos ⟨hm,by omega⟩,numData,natBits_len]
  rw [show (48+((n/10:Nat):Int))=a by omega,show (48+((n%10:Nat):Int))=b by omega]
  simp
 | case3 a=>
  intro bs pre post acc h hd
  obtain⟨ha,ha2⟩:=hd a (by simp)
  rw [numData] at h
  obtain⟨n,hn⟩:∃ n,(a-48).toNat=n:=⟨_,rfl⟩
  rw [hn] at h
  have hr:=rd_at bs pre _ n 4 h (by omega)
  have hm:=room_at bs pre _ n 4 h
  rw [numSeg,if_neg (by simp),if_neg (by simp),if_pos (by simp),hr,if_pos ⟨hm,by omega⟩,numData,natBits_len]
  rw [show (48+(n:Int))=a by omega]
 | case4=>
  intro bs pre post acc h hd
  rw [numSeg,if_neg (by simp),if_neg (by simp),if_neg (by simp)]
  simp [numData]
def alData:List Int->List Bool
 | a :: b :: l=>natBits (alNum a*45+alNum b) 11++alData l
 | [a]=>natBits (alNum a) 6
 | []=>[]
theorem al_seg:∀ (t:List Int) (bs:List Nat) (pre post:List Bool) (acc:List Int),streamBits bs=pre++(alData t++post)->(∀ x∈t,alNum x<45)->
  alSeg bs pre.length t.length acc=some (acc++t,pre.length+(alData t).length):=by
 intro t
 induction t using alData.induct with
 | case1 a b l ih=>
  intro bs pre post acc h hd
  have ha:=hd a (by simp)
  have hb:=hd b (by simp)
  rw [alData,List.append_assoc] at h
  obtain⟨n,hn⟩:∃ n,alNum a*45+alNum b=n:=⟨_,rfl⟩
  rw [hn] at h
  have hr:=rd_at bs pre _ n 11 h (by omega)
  have hm:=room_at bs pre _ n 11 h
  have hq:n/45=alNum a:=by omega
  have hq2:n%45=alNum b:=by omega
  rw [alSeg,if_pos (by simp),hr,if_pos ⟨hm,by omega⟩,hq,hq2,alCh_num a ha,alCh_num b hb]
  have hi:=ih bs (pre++natBits n 11) post (acc++[a]++[b]) (by rw [h];simp) (fun x hx=>hd x (by simp [hx]))
  rw [List.length_append,natBits_len] at hi
  rw [show (a :: b :: l).length-2=l.length by simp,hi,alData,hn]
  simp [natBits_len,Nat.add_assoc]
 | case2 a=>
  intro bs pre post acc h hd
  have ha:=hd a (by simp)
  rw [alData] at h
  have hr:=rd_at bs pre _ _ 6 h (by omega)
  have hm:=room_at bs pre _ _ 6 h
  rw [alSeg,if_neg (by simp),if_pos (by simp),hr,if_pos ⟨hm,ha⟩,alData,natBits_len,alCh_num a ha]
 | case3=>
  intro bs pre post acc h hd
  rw [alSeg,if_neg (by simp),if_neg (by simp)]
  simp [alData]
def byData (t:List Int):List Bool:=t.flatMap fun x=>natBits x.toNat 8
theorem byData_len (t:List Int):(byData t).length=8*t.length:=by
 unfold byData
 induction t with
 | nil=>rfl
 | cons x t ih=>rw [List.flatMap_cons,List.length_append,ih,natBits_len,List.length_cons];omega
theorem by_seg:∀ (t:List Int) (bs:List Nat) (pre post:List Bool),streamBits bs=pre++(byData t++post)->(∀ x∈t,0<=x/\x<=255)->byteSeg bs pre.length t.length=t:=by
 intro t
 induction t with
 | nil=>intros;rfl
 | cons x t ih=>
  intro bs pre post h hd
  obtain⟨h0,h1⟩:=hd x (by simp)
  have e:byData (x :: t)=natBits x.toNat 8++byData t:=by simp [byData]
  rw [e,List.append_assoc] at h
  have hr:=rd_at bs pre _ _ 8 h (by omega)
  have hi:=ih bs (pre++natBits x.toNat 8) post (by rw [h];simp) (fun y hy=>hd y (by simp [hy]))
  rw [List.length_append,natBits_len] at hi
  unfold byteSeg at hi ⊢
  rw [List.length_cons,List.range_succ_eq_map,List.map_cons,List.map_map,Nat.mul_zero,Nat.add_zero,hr]
  have e2:((fun i=>((rdBits bs (pre.length+8*i) 8:Nat):Int)) ∘ Nat.succ)=fun i=>((rdBits bs (pre.length+8+8*i) 8:Nat):Int):=by
   funext i
   show ((rdBits bs (pre.length+8*(i+1)) 8:Nat):Int)=_
   rw [show pre.length+8*(i+1)=pre.length+8+8*i by omega]
  rw [e2,hi,show ((x.toNat:Nat):Int)=x by omega]
def sgData (s:Sg):List Bool:=if s.mode=1 then numData s.text else if s.mode=2 then alData s.text else byData s.text
def sgBits (s:Sg)(v:Nat):List Bool:=natBits s.mode 4++(natBits s.text.length (cntBits s.mode v)++sgData s)
def sgStream (l:List Sg)(v:Nat):List Bool:=l.flatMap fun s=>sgBits s v
def sgOut (fc:Bool)(s:Sg):List Int:=if fc=true/\s.mode=2 then gs1 s.text else s.text
def sgText (fc:Bool)(l:List Sg):List Int:=l.flatMap (sgOut fc)
def sgSegs (l:List Sg):List (List Int):=l.flatMap fun s=>if s.mode=4 then [s.text] else []
theorem drop_app {α:Type}(a b:List α):(a++b).drop a.length=b:=List.drop_left
theorem rd_segs (bs:List Nat)(v:Nat)(post:List Bool)(hpost:post.length<4\/∃ q,post=natBits 0 4++q):∀ (l:List Sg) (pre:List Bool) (st:PS),(∀ s∈l,s.Ok v)->
  streamBits bs=pre++(sgStream l v++post)->st.pos=pre.length->
  ∃ p,Rd bs v st (some { st with pos:=p,out:=st.out++sgText st.fc l,segs:=st.segs++sgSegs l }):=by
 intro l
 induction l with
 | nil=>
  intro pre st _ h hp
  simp only [sgStream,List.flatMap_nil,List.nil_append] at h
  have hl:=congrArg List.length h
  rw [streamBits_len,List.length_append] at hl
  rcases hpost with hq | ⟨q,hq⟩
  ·refine⟨st.pos,?_⟩
   have:=Rd.done (bs:=bs) (v:=v) st (by omega) (by omega)
   simpa [sgText,sgSegs] using this
  ·subst hq
   have:=Rd.stop (bs:=bs) (v:=v) st (by rw [List.length_append,natBits_len] at hl;omega) (by rw [hp];exact rd_at bs pre q 0 4 h (by decide))
   exact⟨st.pos+4,by simpa [sgText,sgSegs] using this⟩
 | cons s l ih=>
  intro pre st hok h hp
  have hs:=hok s (by simp)
  have h1:streamBits bs=pre++(natBits s.mode 4++(natBits s.text.length (cntBits s.mode v)++(sgData s++(sgStream l v++post)))):=by
   rw [h];simp [sgStream,sgBits,List.append_assoc]
  have hm16:s.mode<16:=by rcases hs.mode with h | h | h<;>omega
  have r1:=rd_at bs pre _ _ 4 h1 hm16
  have h2:streamBits bs=(pre++natBits s.mode 4)++(natBits s.text.length (cntBits s.mode v)++(sgData s++(sgStream l v++post))):=by rw [h1];simp
  have r2:=rd_at bs _ _ _ _ h2 hs.len
  have m2:=room_at bs _ _ _ _ h2
  have h3:streamBits bs=(pre++natBits s.mode 4++natBits s.text.length (cntBits s.mode v))++(sgData s++(sgStream l v++post)):=by rw [h2];simp
  rw [List.length_append,natBits_len,<- hp] at r2 m2
  rw [<- hp] at r1
  have hpl:(pre++natBits s.mode 4++natBits s.text.length (cntBits s.mode v)).length=st.pos+4+cntBits s.mode v:=by rw [List.length_append,List.length_append,natBits_len,natBits_len,hp]
  have hnext:streamBits bs=(pre++natBits s.mode 4++natBits s.text.length (cntBits s.mode v)++sgData s)++(sgStream l v++post):=by rw [h3];simp
  have hnl:(pre++natBits s.mode 4++natBits s.text.length (cntBits s.mode v)++sgData s).length=st.pos+4+cntBits s.mode v+(sgData s).length:=by rw [List.length_append,hpl]
  obtain⟨p,hr⟩:=ih _ { st with pos:=st.pos+4+cntBits s.mode v+(sgData s).length,out:=st.out++sgOut st.fc s,segs:=st.segs++(if s.mode=4 then [s.text] else []) } (fun x hx=>hok x (by simp [hx])) hnext hnl.symm
  refine⟨p,?_⟩
  have hr':Rd bs v { st with pos:=st.pos+4+cntBits s.mode v+(sgData s).length,out:=st.out++sgOut st.fc s,segs:=st.segs++(if s.mode=4 then [s.text] else []) } (some { st with pos:=p,out:=st.out++sgText st.fc (s :: l),segs:=st.segs++sgSegs (s :: l) }):=by
   simpa [sgText,sgSegs,List.append_assoc] using hr
  clear hr
  rcases hs.mode with hm | hm | hm
  ·rw [hm] at r1 r2 m2 hpl
   have hd:sgData s=numData s.text:=by simp [sgData,hm]
   rw [hd,hm] at h3
   have hn:=num_seg s.text bs _ _ st.out h3 (hs.num hm)
   rw [hpl] at hn
   refine Rd.num st _ _ _ r1 m2 (by rw [r2];exact hn) ?_
   have e:sgOut st.fc s=s.text:=by simp [sgOut,hm]
   rw [e,hm,hd] at hr'
   simpa [hm] using hr'
  ·rw [hm] at r1 r2 m2 hpl
   have hd:sgData s=alData s.text:=by simp [sgData,hm]
   rw [hd,hm] at h3
   have hn:=al_seg s.text bs _ _ st.out h3 (hs.al hm)
   rw [hpl] at hn
   refine Rd.al st _ _ _ r1 m2 (by rw [r2];exact hn) ?_
   have e:alOut st.fc st.out (st.out++s.text)=st.out++sgOut st.fc s:=by
    unfold alOut sgOut
    rw [drop_app]
    cases st.fc<;>simp [hm]
   rw [hm,hd] at hr'
   rw [e]
   simpa [hm] using hr'
  ·rw [hm] at r1 r2 m2 hpl
   have hd:sgData s=byData s.text:=by simp [sgData,hm]
   rw [hd,hm] at h3
   have hn:=by_seg s.text bs _ _ h3 hs.by_
   rw [hpl] at hn
   have hroom:st.pos+4+cntBits 4 v+8*s.text.length<=8*bs.length:=by
    have:=congrArg List.length hnext
    rw [streamBits_len,List.length_append,hnl,hd,byData_len,hm] at this
    omega
   refine Rd.byte st s.text.length _ r1 m2 r2 hroom ?_
   have e:sgOut st.fc s=s.text:=by simp [sgOut,hm]
   rw [e,hm,hd,byData_len] at hr'
   rw [hn]
   simpa [hm] using hr'
set_option maxHeartbeats 2000000 in
set_option maxRecDepth 8000 in
theorem fits122 (w:World)(m:Int)(A:Option Addr)(c:Nat)(t:List Int)(n:Nat)(hn:t.length=n)(hm:m=1\/m=2\/m=4)(hC:Kd.C (Kd.int .u8) w A n t)(h1:m=1->∀ x∈t,isDig x)(h2:m=2->∀ x∈t,alNum x<45)(hnl:n<=1000000) :
  Calls Tryz.prog 122 #[.agg #[.int .i64 m,.slice A n c]] w fun e w'=>e=.returned (.bool true)/\Below w.heap.size w w':=by
 obtain⟨w0,hw0⟩:∃ w0,w0=w.alloc (.cells #[.int .i64 m,.slice A n c] 98):=⟨_,rfl⟩
 have HW:=Aside0.mk hw0
 have hB:Below w.heap.size w w0:=by rw [hw0];exact below_alloc (Below.refl _ _) _
 have HB:=Aside0.mk hB
 have HBk:=Aside0.mk (show Blk w0 w.heap.size 98 #[.int .i64 m,.slice A n c] by rw [hw0];exact Blk.new _ _ _)
 have HR:=Aside0.mk (show ReadsInt w0 .u8 A n t from Kd.reads_of_C (Kd.C_below hC hB))
 have H1:=Aside0.mk h1
 have H2:=Aside0.mk h2
 have HN:=Aside0.mk hn
 clear hw0 hC h1 h2 hn hB
 rcases hm with rfl | rfl | rfl
 ·have c0:w0.cell? ⟨w.heap.size,0,none⟩=_:=HBk.out.cell 0
  have c1:w0.cell? ⟨w.heap.size,1,none⟩=_:=HBk.out.cell 1
  go_enter Tryz.func122,Tryz.ntmps122
  go_wp2_with fail
  rw [<- HW.out]
  go_loop [8] (fun v=>∃ i:Nat,v=.int .i64 (i:Int)/\i<=n) (fun v=>(n-intOf v).toNat)
  case atStart=>exact⟨0,rfl,Nat.zero_le _⟩
  case round=>
   obtain⟨i,rfl,hi⟩:=hrel
   by_cases hin:i<n
   ·obtain⟨ad,e0,hcell⟩:=HR.out.2.2 (by omega)
    subst e0
    have r0:=hcell i hin
    obtain⟨x,hx⟩:∃ x,t.getD i 0=x:=⟨_,rfl⟩
    have hmem:x∈t:=by
     rw [<- hx,List.getD_eq_getElem?_getD,List.getElem?_eq_getElem (by rw [HN.out];exact hin)]
     exact List.getElem_mem _
    rw [hx] at r0
    have HX1:=Aside0.mk hmem
    clear hx hmem hcell
    have hd:=H1.out (by first | exact True.intro | exact rfl) x HX1.out
    have hb1:decide (x<48)=false:=decide_eq_false (by have:=hd.1;omega)
    have hb2:decide (57<x)=false:=decide_eq_false (by have:=hd.2;omega)
    clear hd
    go_wp2
    go_round
    case rel=>exact⟨i+1,by go_num,by omega⟩
    case measure=>simp [intOf]<;>omega
   ·have:n=i:=by omega
    subst this
    go_wp2
    go_ret
    exact⟨rfl,HB.out⟩
 ·have c0:w0.cell? ⟨w.heap.size,0,none⟩=_:=HBk.out.cell 0
  have c1:w0.cell? ⟨w.heap.size,1,none⟩=_:=HBk.out.cell 1
  go_enter Tryz.func122,Tryz.ntmps122
  go_wp2_with fail
  rw [<- HW.out]
  go_loop [8] (fun v=>∃ i:Nat,v=.int .i64 (i:Int)/\i<=n) (fun v=>(n-intOf v).toNat)
  case atStart=>exact⟨0,rfl,Nat.zero_le _⟩
  case round=>
   obtain⟨i,rfl,hi⟩:=hrel
   by_cases hin:i<n
   ·obtain⟨ad,e0,hcell⟩:=HR.out.2.2 (by omega)
    subst e0
    have r0:=hcell i hin
    obtain⟨x,hx⟩:∃ x,t.getD i 0=x:=⟨_,rfl⟩
    have hmem:x∈t:=by
     rw [<- hx,List.getD_eq_getElem?_getD,List.getElem?_eq_getElem (by rw [HN.out];exact hin)]
     exact List.getElem_mem _
    rw [hx] at r0
    have HX1:=Aside0.mk hmem
    clear hx hmem hcell
    have hd:=H2.out (by first | exact True.intro | exact rfl) x HX1.out
    have ka:=alpha100 w0 x hd
    obtain⟨N,hN⟩:∃ N,alNum x=N:=⟨_,rfl⟩
    rw [hN] at ka
    have hb4:decide ((N:Int)<0)=false:=decide_eq_false (by omega)
    clear hd hN
    go_wp2_with (go_at_call 100;refine ka.mono ?_;rintro e w' ⟨rfl,rfl⟩)
    go_round
    case rel=>exact⟨i+1,by go_num,by omega⟩
    case measure=>simp [intOf]<;>omega
   ·have:n=i:=by omega
    subst this
    go_wp2
    go_ret
    exact⟨rfl,HB.out⟩
 ·have c0:w0.cell? ⟨w.heap.size,0,none⟩=_:=HBk.out.cell 0
  have c1:w0.cell? ⟨w.heap.size,1,none⟩=_:=HBk.out.cell 1
  go_enter Tryz.func122,Tryz.ntmps122
  go_wp2_with fail
  rw [<- HW.out]
  go_loop [8] (fun v=>∃ i:Nat,v=.int .i64 (i:Int)/\i<=n) (fun v=>(n-intOf v).toNat)
  case atStart=>exact⟨0,rfl,Nat.zero_le _⟩
  case round=>
   obtain⟨i,rfl,hi⟩:=hrel
   by_cases hin:i<n
   ·obtain⟨ad,e0,hcell⟩:=HR.out.2.2 (by omega)
    subst e0
    have r0:=hcell i hin
    obtain⟨x,hx⟩:∃ x,t.getD i 0=x:=⟨_,rfl⟩
    have hmem:x∈t:=by
     rw [<- hx,List.getD_eq_getElem?_getD,List.getElem?_eq_getElem (by rw [HN.out];exact hin)]
     exact List.getElem_mem _
    rw [hx] at r0
    have HX1:=Aside0.mk hmem
    clear hx hmem hcell
    go_wp2
    go_round
    case rel=>exact⟨i+1,by go_num,by omega⟩
    case measure=>simp [intOf]<;>omega
   ·have:n=i:=by omega
    subst this
    go_wp2
    go_ret
    exact⟨rfl,HB.out⟩
theorem drop_int (A:Option Addr)(n m c k:Nat)(t l:List Int)(hn:t.length=n)(hm:l.length=m)(hk:t.drop k=l)(hkn:k<=n)(hc:n<=c):∃ (A':Option Addr) (c':Nat),(∀ W:World,(Instr.slice 26 (.slice A n c) (some (.int .i64 (k:Int))) none none).run Tryz.prog W=.ok (.slice A' m c') W)/\
  (∀ w:World,ReadsInt w .u8 A n t->ReadsInt w .u8 A' m l)/\m<=c':=by
 obtain⟨i0,hi0,hz0,hz1,hz2⟩:=info_parts F.info5
 subst hn
 obtain⟨A',h1,h2,h3⟩:=print_drop_of (P:=Tryz.prog) (Value.int .u8) (0:Int) 26 5 .i64 Tryz.underlying26 hi0 hz1 A c t (k:Int) (by omega) (by omega) hc
 rw [Int.toNat_natCast,hk,hm] at h1 h2 h3
 exact⟨A',c-k,h1,h2,h3⟩
theorem addP {w0 w wr:World}{v v0:Value}{xs:List Bool}{p n k:Nat}{cs:Array Value}{a b:Int}(h:DMem w0 w wr v v0 xs p cs)(ha:a=(n:Int))(hb:b=(k:Int))(hn:n<2147483648)(hk:k<=60)(hxl:xs.length<=10000000) :
  Calls Tryz.prog 66 #[v0,.int .i64 a,.int .i64 b] wr fun e w'=>∃ v',e=.returned v'/\DMem w0 w w' v v' (xs++natBits n k) p cs:=by
 subst ha hb
 refine (qrAdd w0 wr w0.heap.size n k v0 xs h.own h.bel h.sz hn hk hxl).mono ?_
 rintro e w' ⟨v',rfl,h1,h2,h3⟩
 refine⟨v',rfl,h1,h2,Nat.le_trans h.sz h3.by_.size,h.gr.trans h3,?_⟩
 exact (h3.by_.block p h.box.lt (own_ne h.own h.box (by decide))).trans h.box
theorem getD_cons0 (x:Int)(l:List Int):(x :: l).getD 0 0=x:=rfl
set_option maxHeartbeats 1000000 in
set_option maxRecDepth 8000 in
theorem dataByte (w0 w:World)(v:Value)(xs:List Bool)(A:Option Addr)(c n:Nat)(t:List Int)(hn:t.length=n)(hc:n<=c)(hT:Kd.C (Kd.int .u8) w0 A n t)(hB:Below w0.heap.size w0 w)(hO:BOwn w w0.heap.size v xs)(hz:w0.heap.size<=w.heap.size)(hby:∀ x∈t,0<=x/\x<=255)(hl:xs.length+8*n<=9000000) :
  Calls Tryz.prog 123 #[v,.agg #[.int .i64 4,.slice A n c]] w fun e w'=>∃ v',e=.returned v'/\BOwn w' w0.heap.size v' (xs++byData t)/\Below w0.heap.size w0 w'/\GrowR w w' v v':=by
 obtain⟨w1,hw1⟩:∃ w1,w1=w.alloc (.cells #[.int .i64 4,.slice A n c] 98):=⟨_,rfl⟩
 have HW:=Aside0.mk hw1
 have HM:=Aside0.mk (show DMem w0 w w1 v v xs w.heap.size #[.int .i64 4,.slice A n c] by
  rw [hw1]
  exact⟨own_move hO fun k hk=>by obtain⟨cs,hb⟩:=own_blk hO k hk;exact Below.heap_alloc w _ k hb.lt,hB.alloc hz _,by simp;omega,(GrowR.refl w v).below (below_alloc (Below.refl _ _) _),Blk.new _ _ _⟩)
 have HT:=Aside0.mk (show ∀ W,Below w0.heap.size w0 W->ReadsInt W .u8 A n t from fun W hb=>Kd.reads_of_C (Kd.C_below hT hb))
 have HN:=Aside0.mk hn
 have HBY:=Aside0.mk hby
 have HL:=Aside0.mk hl
 have c0:=HM.out.box.cell 0
 have c1:=HM.out.box.cell 1
 have HL0:=Aside0.mk (show t.length=n from hn)
 clear hw1 hT hB hO hn hby hl
 go_enter Tryz.func123,Tryz.ntmps123
 go_wp2_with fail
 rw [<- HW.out]
 go_wp2_with fail
 clear c0 c1
 go_loopw [0,5] (fun v0 v5 wr=>∃ (A':Option Addr) (n' c':Nat) (t':List Int) (ys:List Bool),v5=.slice A' n' c'/\n'<=n/\n'<=c'/\Aside0 (t'.length=n')/\Aside0 (∀ W,Below w0.heap.size w0 W->ReadsInt W .u8 A' n' t')/\Aside0 (DMem w0 w wr v v0 ys w.heap.size #[.int .i64 4,.slice A n c])/\Aside0 (ys++byData t'=xs++byData t)/\Aside0 (∀ x∈t',0<=x/\x<=255)/\Aside0 (ys.length<=9000000)) (fun _ v5 _=>(sliceLen v5).toNat)
 case atStart=>exact⟨A,n,c,t,xs,rfl,Nat.le_refl _,hc,HN,HT,HM,⟨rfl⟩,HBY,⟨by have:=HL.out;omega⟩⟩
 case round=>
  clear HT HM HN HBY hc
  obtain⟨A',n',c',t',ys,rfl,hnn,hcc,HN,HT,HM,HE,HBY,HYL⟩:=hrel
  have c0:=HM.out.box.cell 0
  by_cases h0:n'=0
  ·subst h0
   have HE2:=Aside0.mk (show ys=xs++byData t by rw [<- HE.out,List.eq_nil_of_length_eq_zero HN.out];simp [byData])
   go_wp2
   go_ret
   exact⟨_,rfl,by rw [<- HE2.out];exact HM.out.own,HM.out.bel,HM.out.gr⟩
  ·obtain⟨x,l,hxl⟩:∃ x l,t'=x :: l:=by
    cases t' with
    | nil=>exact absurd HN.out.symm h0
    | cons x l=>exact⟨x,l,rfl⟩
   subst hxl
   obtain⟨m,hm⟩:∃ m,l.length=m:=⟨_,rfl⟩
   have hmn:n'=m+1:=by have:=HN.out;simp at this;omega
   obtain⟨A2,c2,hsl,hrd,hc2⟩:=drop_int A' n' m c' 1 (x :: l) l HN.out hm rfl (by omega) hcc
   have hr:=HT.out _ HM.out.bel
   obtain⟨ad,e0,hcell⟩:=hr.2.2 (by omega)
   have r0:=hcell 0 (by omega)
   rw [getD_cons0] at r0
   have r00:wr.cell? ad=some (.int .u8 x):=by rw [<- r0];unfold Addr.add;simp
   obtain⟨b,hb⟩:∃ b:Nat,x=(b:Int):=⟨x.toNat,by have:=(HBY.out x (by simp)).1;omega⟩
   have hb255:b<=255:=by have:=(HBY.out x (by simp)).2;omega
   subst hb e0
   rw [show (((1:Nat):Int))=1 from rfl] at hsl
   have HRD:=Aside0.mk hrd
   have HLM:=Aside0.mk hm
   have HE2:=Aside0.mk (show (ys++natBits b 8)++byData l=xs++byData t by rw [<- HE.out];simp [byData])
   have HBY2:=Aside0.mk (show ∀ x∈l,0<=x/\x<=255 from fun x hx=>HBY.out x (by simp [hx]))
   have hmn1:m<n':=by omega
   clear hrd hm hr hcell h0 hmn
   go_wp2_with fail
   have HMd:=Aside0.mk HM.out.drew
   have hwb:IntKind.i64.wrap (b:Int)=(b:Int):=by rw [IntKind.wrap_i64];omega
   have kad:=addP (n:=b) (k:=8) (a:=(b:Int)) (b:=8) HMd.out rfl rfl (by omega) (by decide) (by have:=HYL.out;omega)
   go_region_with (go_at_call 66;with_reducible (refine kad.mono ?_);rintro e w2 ⟨v2,rfl,hM2⟩;have HM2:=Aside0.mk hM2;clear hM2)
   all_goals
    clear hwb hsl r0 r00
    go_wp2
    go_roundw
    case rel=>
     have hyl:Aside0 ((ys++natBits b 8).length<=9000000):=⟨by have:=congrArg List.length HE2.out;have:=HL.out;have h3:=HL0.out;simp [byData_len] at *;omega⟩
     first
      | exact⟨A2,m,c2,l,_,rfl,by omega,hc2,HLM,⟨fun W hb=>HRD.out W (HT.out W hb)⟩,HM2,HE2,HBY2,hyl⟩
      | ((repeat apply Exists.intro);exact⟨⟨A2,m,c2,l,_,rfl,by omega,hc2,HLM,⟨fun W hb=>HRD.out W (HT.out W hb)⟩,HM2,HE2,HBY2,hyl⟩,rfl⟩)
    case measure=>(show ((m:Int)).toNat<((n':Int)).toNat;omega)
def SegIn (s:F.S98):Prop:=(-9223372036854775808<=s.f0/\s.f0<=9223372036854775807)/\∀ x∈s.f1,0<=x/\x<=255
theorem i64_bounds {n:Int}(h:(Lit.int .i64 n).wf=true):-9223372036854775808<=n/\n<=9223372036854775807:=by
 unfold Lit.wf at h
 simp [IntKind.min,IntKind.max,IntKind.bits,IntKind.signed] at h
 omega
theorem segs_open {H:Type}{enc:TypeId×Value->H}{P:Program}{w:World}{base:Nat}{held:Bool}{t e t0 t1 q:TypeId}{f0 f1:Field}{a:Option Addr}{len cap:Nat}{x:DataW H×List MemPlace}
  (ht:P.underlying t=some (.slice e)) (he:P.underlying e=some (.struct #[f0,f1])) (ce:P.cellsOf e=2) (o0:f0.offset=0) (o1:f1.offset=1) (y0:f0.type=t0) (y1:f1.type=t1) (u0:P.underlying t0=some (.int .i64)) (u1:P.underlying t1=some (.slice q)) (uq:P.underlying q=some (.int .u8))
  (c0:P.cellsOf t0=1) (c1:P.cellsOf t1=1) (cq:P.cellsOf q=1)
  (h:∃ fuel,DataW.trod enc P w base (fun _=>true) held fuel t [.slice a len cap]=some x):∃ segs:List F.S98,segs.length=len/\len<=cap/\Kd.C F.k98 w a len segs/\∀ s∈segs,SegIn s:=by
 obtain⟨fuel,h⟩:=h
 subst y0 y1
 rcases Go.Deep.open_slice_pairs ht he ce o0 o1 c0 c1 h with⟨hcs,_⟩ | ⟨ad,l,c,m,n,V0,V1,D0,D1,P0,P1,hcs,_,hl,hm,hmm,_,hx⟩
 ·simp at hcs
  obtain⟨rfl,rfl,rfl⟩:=hcs
  exact⟨[],rfl,Nat.le_refl _,Kd.C_nil _ w,by simp⟩
 ·simp at hcs
  obtain⟨rfl,rfl,rfl⟩:=hcs
  simp only [if_true] at hmm
  have hm2:cap<=9223372036854775807:=by unfold maxLen at hm;omega
  have each:∀ i,i<len->∃ s:F.S98,SegIn s/\w.cell? (ad.add (i*2))=some (.int .i64 s.f0)/\∃ A1 c1,w.cell? (ad.add (i*2+1))=some (.slice A1 s.f1.length c1)/\s.f1.length<=c1/\(Kd.int .u8).C w A1 s.f1.length s.f1:=by
   intro i hi
   obtain⟨h0,h1,h2,h3⟩:=hx i (by omega)
   obtain⟨z,g1,g2,g3⟩:=DataW.trod_int u0 h2
   rcases Go.ChangeShapes.open_ints u1 uq cq h3 with⟨k1,_⟩ | ⟨a',l',c',zs,k1,_,k3,k4,k5,_,k7,k8⟩
   ·simp at k1 g1
    refine⟨⟨z,[]⟩,⟨i64_bounds (by simpa using g3),by simp⟩,by rw [h0,g1],none,0,by rw [h1,k1];rfl,Nat.le_refl _,Kd.C_nil _ w⟩
   ·simp at k1 g1
    simp only [if_true] at k5
    have hl2:(zs.take l').length=l':=by rw [List.length_take];omega
    refine⟨⟨z,zs.take l'⟩,⟨i64_bounds (by simpa using g3),fun y hy=>u8_wf (k8 y (List.mem_of_mem_take hy))⟩,by rw [h0,g1],some a',c',by rw [h1,k1];show _=some (Value.slice (some a') (zs.take l').length c');rw [hl2],by show (zs.take l').length<=c';rw [hl2];exact k3,?_⟩
    show (Kd.int .u8).C w (some a') (zs.take l').length (zs.take l')
    refine Kd.C_of_reads (enc:=Value.int .u8) (d:=(0:Int)) (h1:=fun _=>rfl) ⟨rfl,by rw [hl2];unfold maxLen at k4;omega,fun hp=>⟨a',rfl,fun j hj=>?_⟩⟩
    rw [hl2] at hj
    rw [k7 j (by omega),List.getD_eq_getElem?_getD,List.getD_eq_getElem?_getD,List.getElem?_take_of_lt hj]
  haveI:Inhabited F.S98:=⟨F.z98⟩
  obtain⟨f,hf⟩:=Go.Deep.choose_lt each
  have hl':((List.range len).map f).length=len:=by simp
  refine⟨(List.range len).map f,hl',hl,⟨hl',by omega,fun _=>⟨ad,rfl,fun j p hj=>?_⟩⟩,?_⟩
  ·have hjl:j<len:=by
    have:=(List.getElem?_eq_some_iff.1 hj).1
    rwa [hl'] at this
   rw [List.getElem?_map,List.getElem?_range hjl] at hj
   obtain rfl:=Option.some.inj hj
   obtain⟨_,g0,A1,cc,g1,g2,g3⟩:=hf j hjl
   refine⟨_,rfl,F.k98_mk w (f j) g2 g3,fun i u hu=>?_⟩
   match i,hu with
   | 0,hu=>
    obtain rfl:Value.int .i64 (f j).f0=u:=by simpa using hu
    exact g0
   | 1,hu=>
    obtain rfl:Value.slice A1 (f j).f1.length cc=u:=by simpa using hu
    exact g1
   | i+2,hu=>simp at hu
  ·intro s hs
   obtain⟨j,hj,rfl⟩:=List.mem_map.1 hs
   exact (hf j (List.mem_range.1 hj)).1
end Go.Proofs.YtgccjgpdjkhpdaaGreat.B
namespace Go.Proofs.YtgccjgpdjkhpdaaGreat.F
open Go.RowKit Go.Proofs.YtgccjgpdjkhpdaaGreatW.PrintWords Go.Proofs.YtgccjgpdjkhpdaaGreatW.PrintLast Go.Proofs.YtgccjgpdjkhpdaaGreatW.PrintMore
attribute [local go_sem] max2_int min2_int max_two min_two max_three min_three max_four min_four
set_option linter.unusedVariables false
set_option linter.unusedSimpArgs false
set_option maxHeartbeats 8000000 in
set_option maxRecDepth 100000 in
theorem laws_zzFits9.calls (a0_0:Int)(A0_1:Option Addr)(c0_1:Nat)(l0_1:List Int)(r:Bool)(w:World)(hr0_1:Kd.C (Kd.int .u8) w A0_1 l0_1.length l0_1)(hc0_1:l0_1.length<=c0_1)(h:laws_zzFits9.f a0_0 l0_1=some r) :
  Calls Tryz.prog 51 #[.agg #[.int .i64 a0_0,.slice A0_1 l0_1.length c0_1]] w fun e w'=>e=.returned (.bool r)/\Below w.heap.size w w':=by
 have hu98:=Tryz.underlying98
 have HR0_1:=Aside0.mk hr0_1
 have HC0_1:=Aside0.mk hc0_1
 clear hr0_1 hc0_1
 have HB:=Aside0.mk (Below.refl w.heap.size w)
 have H:(if (l0_1.length:Int)>2147483647 then (some false) else (some true))=some r:=h
 clear h
 by_cases c2:(l0_1.length:Int)>2147483647
 ·rw [if_pos c2] at H
  have c2b0:decide (2147483647<(l0_1.length:Int))=true:=decide_eq_true c2
  have c2b1:decide (2147483647<l0_1.length)=true:=decide_eq_true (by omega)
  clear c2
  obtain rfl:=Option.some.inj H
  go_enter Tryz.func51,Tryz.ntmps51
  go_wp2_with (first | ((with_reducible refine gate_dst (N:=1) rfl ?_);refine box_event ?hg (N:=1) ?hd (cs:=#[.int .i64 a0_0,.slice A0_1 l0_1.length c0_1]) (t:=98) ?hr ?_;(case hd=>rfl);(case hg=>rfl);(case hr=>first | (go_simp;done) | (go_simp;rfl));intro gb341 hg w3 hbox hb;have n0_:=Aside0.mk (below_step (by repeat (first | (with_reducible first | exact HB.out | apply below_alloc | apply pw_below_drewN | apply below_drew1) | exact HB.out)) hb);have n1_:=Aside0.mk (hbox);have n2_:=Aside0.mk ((by rw [hg];exact (below_size (by repeat (first | (with_reducible first | exact HB.out | apply below_alloc | apply pw_below_drewN | apply below_drew1) | exact HB.out))):w.heap.size<=gb341));have n3_:=Aside0.mk ((by rw [hg];exact (below_size (by repeat (first | (with_reducible first | exact HB.out | apply below_alloc | apply pw_below_drewN | apply below_drew1) | exact HB.out))):w.heap.size<=gb341));clear HB;have HB:=n0_;have BK341:=n1_;have GW341:=n2_;have GE341:=n3_;clear n0_ n1_ n2_ n3_;clear hb hbox hg;have hcz4_0:w3.cell? ⟨gb341,0,none⟩=some (.int .i64 a0_0):=(blk_cell BK341.out 0).trans rfl;have hcz4_1:w3.cell? ⟨gb341,1,none⟩=some (.slice A0_1 l0_1.length c0_1):=(blk_cell BK341.out 1).trans rfl;have hfz4_0:=blk_frozen BK341.out 0;have hfz4_1:=blk_frozen BK341.out 1))
  go_ret
  exact⟨by first | rfl | (simp [errW_none,errW_some]<;>rfl) | (simp [*,errW_none,errW_some]<;>rfl),by repeat (first | (with_reducible first | exact HB.out | apply below_alloc | apply pw_below_drewN | apply below_drew1 | refine below_set ?_ GE341.out) | exact HB.out)⟩
 ·rw [if_neg c2] at H
  have c2b0:decide (2147483647<(l0_1.length:Int))=false:=decide_eq_false c2
  have c2b1:decide (2147483647<l0_1.length)=false:=decide_eq_false (by omega)
  clear c2
  obtain rfl:=Option.some.inj H
  go_enter Tryz.func51,Tryz.ntmps51
  go_wp2_with (first | ((with_reducible refine gate_dst (N:=1) rfl ?_);refine box_event ?hg (N:=1) ?hd (cs:=#[.int .i64 a0_0,.slice A0_1 l0_1.length c0_1]) (t:=98) ?hr ?_;(case hd=>rfl);(case hg=>rfl);(case hr=>first | (go_simp;done) | (go_simp;rfl));intro gb341 hg w5 hbox hb;have n0_:=Aside0.mk (below_step (by repeat (first | (with_reducible first | exact HB.out | apply below_alloc | apply pw_below_drewN | apply below_drew1) | exact HB.out)) hb);have n1_:=Aside0.mk (hbox);have n2_:=Aside0.mk ((by rw [hg];exact (below_size (by repeat (first | (with_reducible first | exact HB.out | apply below_alloc | apply pw_below_drewN | apply below_drew1) | exact HB.out))):w.heap.size<=gb341));have n3_:=Aside0.mk ((by rw [hg];exact (below_size (by repeat (first | (with_reducible first | exact HB.out | apply below_alloc | apply pw_below_drewN | apply below_drew1) | exact HB.out))):w.heap.size<=gb341));clear HB;have HB:=n0_;have BK341:=n1_;have GW341:=n2_;have GE341:=n3_;clear n0_ n1_ n2_ n3_;clear hb hbox hg;have hcz6_0:w5.cell? ⟨gb341,0,none⟩=some (.int .i64 a0_0):=(blk_cell BK341.out 0).trans rfl;have hcz6_1:w5.cell? ⟨gb341,1,none⟩=some (.slice A0_1 l0_1.length c0_1):=(blk_cell BK341.out 1).trans rfl;have hfz6_0:=blk_frozen BK341.out 0;have hfz6_1:=blk_frozen BK341.out 1))
  go_ret
  exact⟨by first | rfl | (simp [errW_none,errW_some]<;>rfl) | (simp [*,errW_none,errW_some]<;>rfl),by repeat (first | (with_reducible first | exact HB.out | apply below_alloc | apply pw_below_drewN | apply below_drew1 | refine below_set ?_ GE341.out) | exact HB.out)⟩
set_option maxHeartbeats 8000000 in
set_option maxRecDepth 100000 in
theorem laws_zzFits8.calls (k:Nat)(A0:Option Addr)(c0:Nat)(l0:List (S98))(r:Bool)(w:World)(hr0:Kd.C k98 w A0 l0.length l0)(hc0:l0.length<=c0)(h:laws_zzFits8.f k l0=some r) :
  Calls Tryz.prog 16 #[.slice A0 l0.length c0] w fun e w'=>e=.returned (.bool r)/\Below w.heap.size w w':=by
 have hu98:=Tryz.underlying98
 have HR0:=Aside0.mk hr0
 have HC0:=Aside0.mk hc0
 clear hr0 hc0
 have HB:=Aside0.mk (Below.refl w.heap.size w)
 have H:(if (l0.length:Int)>2147483647 then (some false) else (laws_zzFits8.l0 k l0 (l0.length:Int) 0))=some r:=h
 clear h
 by_cases c2:(l0.length:Int)>2147483647
 ·rw [if_pos c2] at H
  have c2b0:decide (2147483647<(l0.length:Int))=true:=decide_eq_true c2
  have c2b1:decide (2147483647<l0.length)=true:=decide_eq_true (by omega)
  clear c2
  obtain rfl:=Option.some.inj H
  go_enter Tryz.func16,Tryz.ntmps16
  go_wp2
  go_ret
  exact⟨by first | rfl | (simp [errW_none,errW_some]<;>rfl) | (simp [*,errW_none,errW_some]<;>rfl),by repeat (first | (with_reducible first | exact HB.out | apply below_alloc | apply pw_below_drewN | apply below_drew1) | exact HB.out)⟩
 ·rw [if_neg c2] at H
  have c2b0:decide (2147483647<(l0.length:Int))=false:=decide_eq_false c2
  have c2b1:decide (2147483647<l0.length)=false:=decide_eq_false (by omega)
  clear c2
  have H':=Aside0.mk H
  clear H
  go_enter Tryz.func16,Tryz.ntmps16
  go_wp2
  go_loopg [10] k (fun kq v10 w'=>∃ (x10_1:Int),v10=.int .i64 x10_1/\Aside0 (laws_zzFits8.l0 kq l0 (l0.length:Int) x10_1=some r)/\Aside0 (kq<=k)/\Aside0 (Below w.heap.size w w'))
  case atStart=>exact⟨(0),(by first | rfl | (simp;done) | (simp [*];done)),H',⟨Nat.le_refl _⟩,⟨by repeat (first | (with_reducible first | exact HB.out | apply below_alloc | apply pw_below_drewN | apply below_drew1) | exact HB.out)⟩⟩
  case round=>
   clear H'
   try clear c1
   try clear c2
   try clear c2b0
   try clear c2b1
   try clear p2
   obtain⟨x10_1,rfl,HA,HK1,HB⟩:=hrel
   cases gk with
   | zero=>exact absurd HA.out (by simp [laws_zzFits8.l0])
   | succ k1=>
    have H:=HA.out
    clear HA
    simp only [laws_zzFits8.l0] at H
    by_cases c3:x10_1<(l0.length:Int)
    ·rw [if_pos c3] at H
     have c3b0:decide (x10_1<(l0.length:Int))=true:=decide_eq_true c3
     clear c3
     by_cases c4:0<=x10_1
     ·rw [if_pos c4] at H
      have c4b0:decide (0<=x10_1)=true:=decide_eq_true c4
      clear c4
      by_cases c5:x10_1<(l0.length:Int)
      ·rw [if_pos c5] at H
       have c5b0:decide (x10_1<(l0.length:Int))=true:=decide_eq_true c5
       clear c5
       replace H:=Option.bind_eq_some_iff.mp H
       obtain⟨t344,A60,H⟩:=H
       replace H:(if t344=true then (laws_zzFits8.l0 k1 l0 (l0.length:Int) (wrap64 (x10_1+1))) else (some false))=some r:=H
       have A6:=Aside0.mk A60
       clear A60
       by_cases c7:t344=true
       ·subst c7
        have H1:(laws_zzFits8.l0 k1 l0 (l0.length:Int) (wrap64 (x10_1+1)))=some r:=by rw [if_pos rfl] at H;exact H
        clear H
        have H:=H1
        clear H1
        have H':=Aside0.mk H
        clear H
        have p342:0<=(x10_1:Int):=of_decide_eq_true (by first | (with_reducible assumption) | assumption)
        have q342:x10_1<(l0.length:Int):=of_decide_eq_true (by first | (with_reducible assumption) | assumption)
        obtain⟨ad342,A342_1,c342_1,e342,hx342_0,hx342_1,hl342_1,hi342_1⟩:=at_T98 HR0.out x10_1 p342 q342
        cases e342
        replace hx342_0:=(HB.out.cell (World.block_lt_of_cell? w _ hx342_0)).trans hx342_0
        replace hx342_1:=(HB.out.cell (World.block_lt_of_cell? w _ hx342_1)).trans hx342_1
        have HR342_1:=Aside0.mk hi342_1
        have HC342_1:=Aside0.mk hl342_1
        clear hi342_1 hl342_1
        replace p342:=eq_true p342
        replace q342:=eq_true q342
        go_wp2_with (first | ((with_reducible refine gate_dst (N:=4) rfl ?_);refine box_event ?hg (N:=4) ?hd (cs:=#[.int .i64 0,.slice none 0 0]) (t:=98) ?hr ?_;(case hd=>rfl);(case hg=>rfl);(case hr=>first | (go_simp;done) | (go_simp;rfl));intro gb343 hg w8 hbox hb;have n0_:=Aside0.mk (below_step (by repeat (first | (with_reducible first | exact HB.out | apply below_alloc | apply pw_below_drewN | apply below_drew1) | exact HB.out)) hb);have n1_:=Aside0.mk (hbox);have n2_:=Aside0.mk ((by rw [hg];exact (below_size (by repeat (first | (with_reducible first | exact HB.out | apply below_alloc | apply pw_below_drewN | apply below_drew1) | exact HB.out))):w.heap.size<=gb343));have n3_:=Aside0.mk ((by rw [hg];exact (below_size (by repeat (first | (with_reducible first | exact HB.out | apply below_alloc | apply pw_below_drewN | apply below_drew1) | exact HB.out))):w.heap.size<=gb343));clear HB;have HB:=n0_;have BK343:=n1_;have GW343:=n2_;have GE343:=n3_;clear n0_ n1_ n2_ n3_;clear hb hbox hg;have hcz9_0:w8.cell? ⟨gb343,0,none⟩=some (.int .i64 0):=(blk_cell BK343.out 0).trans rfl;have hcz9_1:w8.cell? ⟨gb343,1,none⟩=some (.slice none 0 0):=(blk_cell BK343.out 1).trans rfl;have hfz9_0:=blk_frozen BK343.out 0;have hfz9_1:=blk_frozen BK343.out 1) | ((with_reducible refine gate_callee (f:=51) rfl ?_);refine goesL_ (some 15) rfl rfl Tryz.func51 (by kernel_rfl) rfl #[.agg #[.int .i64 ((rd_T98 l0 x10_1).f0),.slice A342_1 ((rd_T98 l0 x10_1).f1).length c342_1]] rfl (by (try simp only [List.map_toArray,List.map_cons,List.map_nil]);first | done | rfl | (simp only [List.length_drop,List.length_take];rfl)) ?_;(with_reducible refine (laws_zzFits9.calls ((rd_T98 l0 x10_1).f0) _ _ ((rd_T98 l0 x10_1).f1) true _ ?side1 ?side2 A6.out).mono ?_);(case side1=>exact Kd.C_below HR342_1.out (by repeat (first | (with_reducible first | exact HB.out | apply below_alloc | apply pw_below_drewN | apply below_drew1 | refine below_set ?_ GE343.out) | exact HB.out)));(case side2=>exact HC342_1.out);rintro e w10 ⟨rfl,hb⟩;refine⟨_,rfl,?_⟩;have n0_:=Aside0.mk (blk_below (g:=gb343) (o:=.cells #[.int .i64 ((rd_T98 l0 x10_1).f0),.slice A342_1 ((rd_T98 l0 x10_1).f1).length c342_1] 98 (0,0)) (by (with_reducible repeat (first | refine blk_drewN ?_ _ | refine blk_drew ?_ | refine blk_alloc ?_ _));refine blk_put (cs:=#[.int .i64 ((rd_T98 l0 x10_1).f0),.slice none 0 0]) ?_ 1 _ rfl;(with_reducible repeat (first | refine blk_drewN ?_ _ | refine blk_drew ?_ | refine blk_alloc ?_ _));refine blk_put (cs:=#[.int .i64 0,.slice none 0 0]) ?_ 0 _ rfl;(with_reducible repeat (first | refine blk_drewN ?_ _ | refine blk_drew ?_ | refine blk_alloc ?_ _));exact BK343.out) hb);have n1_:=Aside0.mk (below_step (by repeat (first | (with_reducible first | exact HB.out | apply below_alloc | apply pw_below_drewN | apply below_drew1 | refine below_set ?_ GE343.out) | exact HB.out)) hb);clear BK343;clear HB;have BK343:=n0_;have HB:=n1_;clear n0_ n1_;(try clear hb);(try clear hb2);(try clear hk);(try clear hi)))
        go_roundg k1
        case measure=>have:=HK1.out;omega
        case rel=>exact⟨(wrap64 (x10_1+1)),(by first | rfl | (simp;done) | (simp [*];done)),H',⟨by have:=HK1.out;omega⟩,⟨by repeat (first | (with_reducible first | exact HB.out | apply below_alloc | apply pw_below_drewN | apply below_drew1 | refine below_set ?_ GE343.out) | exact HB.out)⟩⟩
       ·replace c7:=Bool.eq_false_iff.mpr c7
        subst c7
        have H1:(some false)=some r:=by rw [if_neg (show ¬ (false=true) by decide)] at H;exact H
        clear H
        have H:=H1
        clear H1
        obtain rfl:=Option.some.inj H
        have p342:0<=(x10_1:Int):=of_decide_eq_true (by first | (with_reducible assumption) | assumption)
        have q342:x10_1<(l0.length:Int):=of_decide_eq_true (by first | (with_reducible assumption) | assumption)
        obtain⟨ad342,A342_1,c342_1,e342,hx342_0,hx342_1,hl342_1,hi342_1⟩:=at_T98 HR0.out x10_1 p342 q342
        cases e342
        replace hx342_0:=(HB.out.cell (World.block_lt_of_cell? w _ hx342_0)).trans hx342_0
        replace hx342_1:=(HB.out.cell (World.block_lt_of_cell? w _ hx342_1)).trans hx342_1
        have HR342_1:=Aside0.mk hi342_1
        have HC342_1:=Aside0.mk hl342_1
        clear hi342_1 hl342_1
        replace p342:=eq_true p342
        replace q342:=eq_true q342
        go_wp2_with (first | ((with_reducible refine gate_dst (N:=4) rfl ?_);refine box_event ?hg (N:=4) ?hd (cs:=#[.int .i64 0,.slice none 0 0]) (t:=98) ?hr ?_;(case hd=>rfl);(case hg=>rfl);(case hr=>first | (go_simp;done) | (go_simp;rfl));intro gb343 hg w11 hbox hb;have n0_:=Aside0.mk (below_step (by repeat (first | (with_reducible first | exact HB.out | apply below_alloc | apply pw_below_drewN | apply below_drew1) | exact HB.out)) hb);have n1_:=Aside0.mk (hbox);have n2_:=Aside0.mk ((by rw [hg];exact (below_size (by repeat (first | (with_reducible first | exact HB.out | apply below_alloc | apply pw_below_drewN | apply below_drew1) | exact HB.out))):w.heap.size<=gb343));have n3_:=Aside0.mk ((by rw [hg];exact (below_size (by repeat (first | (with_reducible first | exact HB.out | apply below_alloc | apply pw_below_drewN | apply below_drew1) | exact HB.out))):w.heap.size<=gb343));clear HB;have HB:=n0_;have BK343:=n1_;have GW343:=n2_;have GE343:=n3_;clear n0_ n1_ n2_ n3_;clear hb hbox hg;have hcz12_0:w11.cell? ⟨gb343,0,none⟩=some (.int .i64 0):=(blk_cell BK343.out 0).trans rfl;have hcz12_1:w11.cell? ⟨gb343,1,none⟩=some (.slice none 0 0):=(blk_cell BK343.out 1).trans rfl;have hfz12_0:=blk_frozen BK343.out 0;have hfz12_1:=blk_frozen BK343.out 1) | ((with_reducible refine gate_callee (f:=51) rfl ?_);refine goesL_ (some 15) rfl rfl Tryz.func51 (by kernel_rfl) rfl #[.agg #[.int .i64 ((rd_T98 l0 x10_1).f0),.slice A342_1 ((rd_T98 l0 x10_1).f1).length c342_1]] rfl (by (try simp only [List.map_toArray,List.map_cons,List.map_nil]);first | done | rfl | (simp only [List.length_drop,List.length_take];rfl)) ?_;(with_reducible refine (laws_zzFits9.calls ((rd_T98 l0 x10_1).f0) _ _ ((rd_T98 l0 x10_1).f1) false _ ?side1 ?side2 A6.out).mono ?_);(case side1=>exact Kd.C_below HR342_1.out (by repeat (first | (with_reducible first | exact HB.out | apply below_alloc | apply pw_below_drewN | apply below_drew1 | refine below_set ?_ GE343.out) | exact HB.out)));(case side2=>exact HC342_1.out);rintro e w13 ⟨rfl,hb⟩;refine⟨_,rfl,?_⟩;have n0_:=Aside0.mk (blk_below (g:=gb343) (o:=.cells #[.int .i64 ((rd_T98 l0 x10_1).f0),.slice A342_1 ((rd_T98 l0 x10_1).f1).length c342_1] 98 (0,0)) (by (with_reducible repeat (first | refine blk_drewN ?_ _ | refine blk_drew ?_ | refine blk_alloc ?_ _));refine blk_put (cs:=#[.int .i64 ((rd_T98 l0 x10_1).f0),.slice none 0 0]) ?_ 1 _ rfl;(with_reducible repeat (first | refine blk_drewN ?_ _ | refine blk_drew ?_ | refine blk_alloc ?_ _));refine blk_put (cs:=#[.int .i64 0,.slice none 0 0]) ?_ 0 _ rfl;(with_reducible repeat (first | refine blk_drewN ?_ _ | refine blk_drew ?_ | refine blk_alloc ?_ _));exact BK343.out) hb);have n1_:=Aside0.mk (below_step (by repeat (first | (with_reducible first | exact HB.out | apply below_alloc | apply pw_below_drewN | apply below_drew1 | refine below_set ?_ GE343.out) | exact HB.out)) hb);clear BK343;clear HB;have BK343:=n0_;have HB:=n1_;clear n0_ n1_;(try clear hb);(try clear hb2);(try clear hk);(try clear hi)))
        go_ret
        exact⟨by first | rfl | (simp [errW_none,errW_some]<;>rfl) | (simp [*,errW_none,errW_some]<;>rfl),by repeat (first | (with_reducible first | exact HB.out | apply below_alloc | apply pw_below_drewN | apply below_drew1 | refine below_set ?_ GE343.out) | exact HB.out)⟩
      ·rw [if_neg c5] at H
       exact absurd H (by simp)
     ·rw [if_neg c4] at H
      exact absurd H (by simp)
    ·rw [if_neg c3] at H
     have c3b0:decide (x10_1<(l0.length:Int))=false:=decide_eq_false c3
     clear c3
     obtain rfl:=Option.some.inj H
     go_wp2
     go_ret
     exact⟨by first | rfl | (simp [errW_none,errW_some]<;>rfl) | (simp [*,errW_none,errW_some]<;>rfl),by repeat (first | (with_reducible first | exact HB.out | apply below_alloc | apply pw_below_drewN | apply below_drew1) | exact HB.out)⟩
end Go.Proofs.YtgccjgpdjkhpdaaGreat.F
