import Derived.Deep.SlicePairs
import Derived.Test.YtgccjgpdjkhpdaaGreatVBack3
/-! Own texts of this claim, part 20. -/
namespace Go.Proofs.YtgccjgpdjkhpdaaGreat.B
open Go.RowKit Go.Proofs.YtgccjgpdjkhpdaaGreatW.PrintWords Go.Proofs.YtgccjgpdjkhpdaaGreatW.PrintLast Go.Proofs.YtgccjgpdjkhpdaaGreatW.PrintMore
set_option linter.unusedVariables false
set_option linter.unusedSimpArgs false
def natBits (n k:Nat):List Bool:=(List.range k).map fun i=>n.testBit (k-1-i)
theorem natBits_len (n k:Nat):(natBits n k).length=k:=by simp [natBits]
theorem natBits_succ (n k:Nat):natBits n (k+1)=natBits (n/2) k++[n.testBit 0]:=by
 unfold natBits
 rw [List.range_succ,List.map_append]
 congr 1
 ·apply List.map_congr_left
  intro i hi
  have:=List.mem_range.1 hi
  rw [Nat.testBit_div_two,show k-1-i+1=k+1-1-i by omega]
 ·simp
theorem bval_natBits (n k:Nat):bval (natBits n k)=n%2 ^ k:=by
 induction k generalizing n with
 | zero=>simp [natBits,bval,Nat.mod_one]
 | succ k ih=>
  rw [natBits_succ,bval_append,ih]
  have h1:bval [n.testBit 0]=n%2:=by
   simp [bval,Nat.testBit_zero]
   rcases Nat.mod_two_eq_zero_or_one n with h | h<;>simp [h]
  rw [h1,show (2:Nat) ^ [n.testBit 0].length=2 from rfl,show 2 ^ (k+1)=2*2 ^ k by rw [Nat.pow_succ,Nat.mul_comm]]
  have h3:=Nat.mod_mul (a:=2) (b:=2 ^ k) (x:=n)
  omega
theorem rd_at (bs:List Nat)(pre post:List Bool)(n k:Nat)(h:streamBits bs=pre++(natBits n k++post))(hn:n<2 ^ k):rdBits bs pre.length k=n:=by
 unfold rdBits seg
 rw [h,List.drop_left,List.take_left' (natBits_len n k),bval_natBits,Nat.mod_eq_of_lt hn]
theorem room_at (bs:List Nat)(pre post:List Bool)(n k:Nat)(h:streamBits bs=pre++(natBits n k++post)):pre.length+k<=8*bs.length:=by
 have:=congrArg List.length h
 rw [streamBits_len,List.length_append,List.length_append,natBits_len] at this
 omega
def isDig (x:Int):Prop:=48<=x/\x<=57
def numData:List Int->List Bool
 | a :: b :: c :: l=>natBits ((a-48)*100+(b-48)*10+(c-48)).toNat 10++numData l
 | [a,b]=>natBits ((a-48)*10+(b-48)).toNat 7
 | [a]=>natBits (a-48).toNat 4
 | []=>[]
theorem num_seg:∀ (t:List Int) (bs:List Nat) (pre post:List Bool) (acc:List Int),streamBits bs=pre++(numData t++post)->(∀ x∈t,isDig x)->
  numSeg bs pre.length t.length acc=some (acc++t,pre.length+(numData t).length):=by
 intro t
 induction t using numData.induct with
 | case1 a b c l ih=>
  intro bs pre post acc h hd
  obtain⟨ha,ha2⟩:=hd a (by simp)
  obtain⟨hb,hb2⟩:=hd b (by simp)
  obtain⟨hc,hc2⟩:=hd c (by simp)
  rw [numData,List.append_assoc] at h
  obtain⟨n,hn⟩:∃ n,((a-48)*100+(b-48)*10+(c-48)).toNat=n:=⟨_,rfl⟩
  rw [hn] at h
  have hn1:n<1000:=by omega
  have hr:=rd_at bs pre _ n 10 h (by omega)
  have hm:=room_at bs pre _ n 10 h
  rw [numSeg,if_pos (by simp),hr,if_pos ⟨hm,hn1⟩]
  have hi:=ih bs (pre++natBits n 10) post (acc++[48+((n/100:Nat):Int)]++[48+((n/10%10:Nat):Int)]++[48+((n%10:Nat):Int)]) (by rw [h];simp) (fun x hx=>hd x (by simp [hx]))
  rw [List.length_append,natBits_len] at hi
  rw [show (a :: b :: c :: l).length-3=l.length by simp,hi,numData,hn]
  rw [show (48+((n/100:Nat):Int))=a by omega,show (48+((n/10%10:Nat):Int))=b by omega,show (48+((n%10:Nat):Int))=c by omega]
  simp [natBits_len,Nat.add_assoc]
 | case2 a b=>
  intro bs pre post acc h hd
  obtain⟨ha,ha2⟩:=hd a (by simp)
  obtain⟨hb,hb2⟩:=hd b (by simp)
  rw [numData] at h
  obtain⟨n,hn⟩:∃ n,((a-48)*10+(b-48)).toNat=n:=⟨_,rfl⟩
  rw [hn] at h
  have hr:=rd_at bs pre _ n 7 h (by omega)
  have hm:=room_at bs pre _ n 7 h
  rw [numSeg,if_neg (by simp),if_pos (by simp),hr,if_pos ⟨hm,by omega⟩,numData,natBits_len]
  rw [show (48+((n/10:Nat):Int))=a by omega,show (48+((n%10:Nat):Int))=b by omega]
  simp
 | case3 a=>
  intro bs pre post acc h hd
  obtain⟨ha,ha2⟩:=hd a (by simp)
  rw [numData] at h
  obtain⟨n,hn⟩:∃ n,(a-48).toNat=n:=⟨_,rfl⟩
  rw [hn] at h
  have hr:=rd_at bs pre _ n 4 h (by omega)
  have hm:=room_at bs pre _ n 4 h
  rw [numSeg,if_neg (by simp),if_neg (by simp),if_pos (by simp),hr,if_pos ⟨hm,by omega⟩,numData,natBits_len]
  rw [show (48+(n:Int))=a by omega]
 | case4=>
  intro bs pre post acc h hd
  rw [numSeg,if_neg (by simp),if_neg (by simp),if_neg (by simp)]
  simp [numData]
def alNum (x:Int):Nat:=alTab.findIdx fun (y:Nat)=>(y:Int)==x
theorem alNum_look:∀ k:Fin 45,alNum (alCh k.val)=k.val:=by decide +kernel
theorem alCh_num (x:Int)(h:alNum x<45):alCh (alNum x)=x:=by
 have hl:alTab.length=45:=rfl
 have hx:=List.findIdx_getElem (w:=show List.findIdx (fun y:Nat=>(y:Int)==x) alTab<alTab.length by rw [hl];exact h)
 unfold alCh
 rw [List.getD_eq_getElem?_getD,List.getElem?_eq_getElem (by rw [hl];exact h),Option.getD_some]
 exact eq_of_beq hx
def alData:List Int->List Bool
 | a :: b :: l=>natBits (alNum a*45+alNum b) 11++alData l
 | [a]=>natBits (alNum a) 6
 | []=>[]
theorem al_seg:∀ (t:List Int) (bs:List Nat) (pre post:List Bool) (acc:List Int),streamBits bs=pre++(alData t++post)->(∀ x∈t,alNum x<45)->
  alSeg bs pre.length t.length acc=some (acc++t,pre.length+(alData t).length):=by
 intro t
 induction t using alData.induct with
 | case1 a b l ih=>
  intro bs pre post acc h hd
  have ha:=hd a (by simp)
  have hb:=hd b (by simp)
  rw [alData,List.append_assoc] at h
  obtain⟨n,hn⟩:∃ n,alNum a*45+alNum b=n:=⟨_,rfl⟩
  rw [hn] at h
  have hr:=rd_at bs pre _ n 11 h (by omega)
  have hm:=room_at bs pre _ n 11 h
  have hq:n/45=alNum a:=by omega
  have hq2:n%45=alNum b:=by omega
  rw [alSeg,if_pos (by simp),hr,if_pos ⟨hm,by omega⟩,hq,hq2,alCh_num a ha,alCh_num b hb]
  have hi:=ih bs (pre++natBits n 11) post (acc++[a]++[b]) (by rw [h];simp) (fun x hx=>hd x (by simp [hx]))
  rw [List.length_append,natBits_len] at hi
  rw [show (a :: b :: l).length-2=l.length by simp,hi,alData,hn]
  simp [natBits_len,Nat.add_assoc]
 | case2 a=>
  intro bs pre post acc h hd
  have ha:=hd a (by simp)
  rw [alData] at h
  have hr:=rd_at bs pre _ _ 6 h (by omega)
  have hm:=room_at bs pre _ _ 6 h
  rw [alSeg,if_neg (by simp),if_pos (by simp),hr,if_pos ⟨hm,ha⟩,alData,natBits_len,alCh_num a ha]
 | case3=>
  intro bs pre post acc h hd
  rw [alSeg,if_neg (by simp),if_neg (by simp)]
  simp [alData]
def byData (t:List Int):List Bool:=t.flatMap fun x=>natBits x.toNat 8
theorem byData_len (t:List Int):(byData t).length=8*t.length:=by
 unfold byData
 induction t with
 | nil=>rfl
 | cons x t ih=>rw [List.flatMap_cons,List.length_append,ih,natBits_len,List.length_cons];omega
theorem by_seg:∀ (t:List Int) (bs:List Nat) (pre post:List Bool),streamBits bs=pre++(byData t++post)->(∀ x∈t,0<=x/\x<=255)->byteSeg bs pre.length t.length=t:=by
 intro t
 induction t with
 | nil=>intros;rfl
 | cons x t ih=>
  intro bs pre post h hd
  obtain⟨h0,h1⟩:=hd x (by simp)
  have e:byData (x :: t)=natBits x.toNat 8++byData t:=by simp [byData]
  rw [e,List.append_assoc] at h
  have hr:=rd_at bs pre _ _ 8 h (by omega)
  have hi:=ih bs (pre++natBits x.toNat 8) post (by rw [h];simp) (fun y hy=>hd y (by simp [hy]))
  rw [List.length_append,natBits_len] at hi
  unfold byteSeg at hi ⊢
  rw [List.length_cons,List.range_succ_eq_map,List.map_cons,List.map_map,Nat.mul_zero,Nat.add_zero,hr]
  have e2:((fun i=>((rdBits bs (pre.length+8*i) 8:Nat):Int)) ∘ Nat.succ)=fun i=>((rdBits bs (pre.length+8+8*i) 8:Nat):Int):=by
   funext i
   show ((rdBits bs (pre.length+8*(i+1)) 8:Nat):Int)=_
   rw [show pre.length+8*(i+1)=pre.length+8+8*i by omega]
  rw [e2,hi,show ((x.toNat:Nat):Int)=x by omega]
structure Sg where
 mode:Nat
 text:List Int
def sgData (s:Sg):List Bool:=if s.mode=1 then numData s.text else if s.mode=2 then alData s.text else byData s.text
structure Sg.Ok (s:Sg)(v:Nat):Prop where
 mode:s.mode=1\/s.mode=2\/s.mode=4
 num:s.mode=1->∀ x∈s.text,isDig x
 al:s.mode=2->∀ x∈s.text,alNum x<45
 by_:∀ x∈s.text,0<=x/\x<=255
 len:s.text.length<2 ^ cntBits s.mode v
def sgBits (s:Sg)(v:Nat):List Bool:=natBits s.mode 4++(natBits s.text.length (cntBits s.mode v)++sgData s)
def sgStream (l:List Sg)(v:Nat):List Bool:=l.flatMap fun s=>sgBits s v
def sgOut (fc:Bool)(s:Sg):List Int:=if fc=true/\s.mode=2 then gs1 s.text else s.text
def sgText (fc:Bool)(l:List Sg):List Int:=l.flatMap (sgOut fc)
def sgSegs (l:List Sg):List (List Int):=l.flatMap fun s=>if s.mode=4 then [s.text] else []
theorem drop_app {α:Type}(a b:List α):(a++b).drop a.length=b:=List.drop_left
theorem rd_segs (bs:List Nat)(v:Nat)(post:List Bool)(hpost:post.length<4\/∃ q,post=natBits 0 4++q):∀ (l:List Sg) (pre:List Bool) (st:PS),(∀ s∈l,s.Ok v)->
  streamBits bs=pre++(sgStream l v++post)->st.pos=pre.length->
  ∃ p,Rd bs v st (some { st with pos:=p,out:=st.out++sgText st.fc l,segs:=st.segs++sgSegs l }):=by
 intro l
 induction l with
 | nil=>
  intro pre st _ h hp
  simp only [sgStream,List.flatMap_nil,List.nil_append] at h
  have hl:=congrArg List.length h
  rw [streamBits_len,List.length_append] at hl
  rcases hpost with hq | ⟨q,hq⟩
  ·refine⟨st.pos,?_⟩
   have:=Rd.done (bs:=bs) (v:=v) st (by omega) (by omega)
   simpa [sgText,sgSegs] using this
  ·subst hq
   have:=Rd.stop (bs:=bs) (v:=v) st (by rw [List.length_append,natBits_len] at hl;omega) (by rw [hp];exact rd_at bs pre q 0 4 h (by decide))
   exact⟨st.pos+4,by simpa [sgText,sgSegs] using this⟩
 | cons s l ih=>
  intro pre st hok h hp
  have hs:=hok s (by simp)
  have h1:streamBits bs=pre++(natBits s.mode 4++(natBits s.text.length (cntBits s.mode v)++(sgData s++(sgStream l v++post)))):=by
   rw [h];simp [sgStream,sgBits,List.append_assoc]
  have hm16:s.mode<16:=by rcases hs.mode with h | h | h<;>omega
  have r1:=rd_at bs pre _ _ 4 h1 hm16
  have h2:streamBits bs=(pre++natBits s.mode 4)++(natBits s.text.length (cntBits s.mode v)++(sgData s++(sgStream l v++post))):=by rw [h1];simp
  have r2:=rd_at bs _ _ _ _ h2 hs.len
  have m2:=room_at bs _ _ _ _ h2
  have h3:streamBits bs=(pre++natBits s.mode 4++natBits s.text.length (cntBits s.mode v))++(sgData s++(sgStream l v++post)):=by rw [h2];simp
  rw [List.length_append,natBits_len,<- hp] at r2 m2
  rw [<- hp] at r1
  have hpl:(pre++natBits s.mode 4++natBits s.text.length (cntBits s.mode v)).length=st.pos+4+cntBits s.mode v:=by rw [List.length_append,List.length_append,natBits_len,natBits_len,hp]
  have hnext:streamBits bs=(pre++natBits s.mode 4++natBits s.text.length (cntBits s.mode v)++sgData s)++(sgStream l v++post):=by rw [h3];simp
  have hnl:(pre++natBits s.mode 4++natBits s.text.length (cntBits s.mode v)++sgData s).length=st.pos+4+cntBits s.mode v+(sgData s).length:=by rw [List.length_append,hpl]
  obtain⟨p,hr⟩:=ih _ { st with pos:=st.pos+4+cntBits s.mode v+(sgData s).length,out:=st.out++sgOut st.fc s,segs:=st.segs++(if s.mode=4 then [s.text] else []) } (fun x hx=>hok x (by simp [hx])) hnext hnl.symm
  refine⟨p,?_⟩
  have hr':Rd bs v { st with pos:=st.pos+4+cntBits s.mode v+(sgData s).length,out:=st.out++sgOut st.fc s,segs:=st.segs++(if s.mode=4 then [s.text] else []) } (some { st with pos:=p,out:=st.out++sgText st.fc (s :: l),segs:=st.segs++sgSegs (s :: l) }):=by
   simpa [sgText,sgSegs,List.append_assoc] using hr
  clear hr
  rcases hs.mode with hm | hm | hm
  ·rw [hm] at r1 r2 m2 hpl
   have hd:sgData s=numData s.text:=by simp [sgData,hm]
   rw [hd,hm] at h3
   have hn:=num_seg s.text bs _ _ st.out h3 (hs.num hm)
   rw [hpl] at hn
   refine Rd.num st _ _ _ r1 m2 (by rw [r2];exact hn) ?_
   have e:sgOut st.fc s=s.text:=by simp [sgOut,hm]
   rw [e,hm,hd] at hr'
   simpa [hm] using hr'
  ·rw [hm] at r1 r2 m2 hpl
   have hd:sgData s=alData s.text:=by simp [sgData,hm]
   rw [hd,hm] at h3
   have hn:=al_seg s.text bs _ _ st.out h3 (hs.al hm)
   rw [hpl] at hn
   refine Rd.al st _ _ _ r1 m2 (by rw [r2];exact hn) ?_
   have e:alOut st.fc st.out (st.out++s.text)=st.out++sgOut st.fc s:=by
    unfold alOut sgOut
    rw [drop_app]
    cases st.fc<;>simp [hm]
   rw [hm,hd] at hr'
   rw [e]
   simpa [hm] using hr'
  ·rw [hm] at r1 r2 m2 hpl
   have hd:sgData s=byData s.text:=by simp [sgData,hm]
   rw [hd,hm] at h3
   have hn:=by_seg s.text bs _ _ h3 hs.by_
   rw [hpl] at hn
   have hroom:st.pos+4+cntBits 4 v+8*s.text.length<=8*bs.length:=by
    have:=congrArg List.length hnext
    rw [streamBits_len,List.length_append,hnl,hd,byData_len,hm] at this
    omega
   refine Rd.byte st s.text.length _ r1 m2 r2 hroom ?_
   have e:sgOut st.fc s=s.text:=by simp [sgOut,hm]
   rw [e,hm,hd,byData_len] at hr'
   rw [hn]
   simpa [hm] using hr'
def SegIn (s:F.S98):Prop:=(-9223372036854775808<=s.f0/\s.f0<=9223372036854775807)/\∀ x∈s.f1,0<=x/\x<=255
theorem i64_bounds {n:Int}(h:(Lit.int .i64 n).wf=true):-9223372036854775808<=n/\n<=9223372036854775807:=by
 unfold Lit.wf at h
 simp [IntKind.min,IntKind.max,IntKind.bits,IntKind.signed] at h
 omega
theorem u8_wf {n:Int}(h:(Lit.int .u8 n).wf=true):0<=n/\n<=255:=by
 unfold Lit.wf at h
 simp [IntKind.min,IntKind.max,IntKind.bits,IntKind.signed] at h
 omega
theorem segs_open {H:Type}{enc:TypeId×Value->H}{P:Program}{w:World}{base:Nat}{held:Bool}{t e t0 t1 q:TypeId}{f0 f1:Field}{a:Option Addr}{len cap:Nat}{x:DataW H×List MemPlace}
  (ht:P.underlying t=some (.slice e)) (he:P.underlying e=some (.struct #[f0,f1])) (ce:P.cellsOf e=2) (o0:f0.offset=0) (o1:f1.offset=1) (y0:f0.type=t0) (y1:f1.type=t1) (u0:P.underlying t0=some (.int .i64)) (u1:P.underlying t1=some (.slice q)) (uq:P.underlying q=some (.int .u8))
  (c0:P.cellsOf t0=1) (c1:P.cellsOf t1=1) (cq:P.cellsOf q=1)
  (h:∃ fuel,DataW.trod enc P w base (fun _=>true) held fuel t [.slice a len cap]=some x):∃ segs:List F.S98,segs.length=len/\len<=cap/\Kd.C F.k98 w a len segs/\∀ s∈segs,SegIn s:=by
 obtain⟨fuel,h⟩:=h
 subst y0 y1
 rcases Go.Deep.open_slice_pairs ht he ce o0 o1 c0 c1 h with⟨hcs,_⟩ | ⟨ad,l,c,m,n,V0,V1,D0,D1,P0,P1,hcs,_,hl,hm,hmm,_,hx⟩
 ·simp at hcs
  obtain⟨rfl,rfl,rfl⟩:=hcs
  exact⟨[],rfl,Nat.le_refl _,Kd.C_nil _ w,by simp⟩
 ·simp at hcs
  obtain⟨rfl,rfl,rfl⟩:=hcs
  simp only [if_true] at hmm
  have hm2:cap<=9223372036854775807:=by unfold maxLen at hm;omega
  have each:∀ i,i<len->∃ s:F.S98,SegIn s/\w.cell? (ad.add (i*2))=some (.int .i64 s.f0)/\∃ A1 c1,w.cell? (ad.add (i*2+1))=some (.slice A1 s.f1.length c1)/\s.f1.length<=c1/\(Kd.int .u8).C w A1 s.f1.length s.f1:=by
   intro i hi
   obtain⟨h0,h1,h2,h3⟩:=hx i (by omega)
   obtain⟨z,g1,g2,g3⟩:=DataW.trod_int u0 h2
   rcases Go.ChangeShapes.open_ints u1 uq cq h3 with⟨k1,_⟩ | ⟨a',l',c',zs,k1,_,k3,k4,k5,_,k7,k8⟩
   ·simp at k1 g1
    refine⟨⟨z,[]⟩,⟨i64_bounds (by simpa using g3),by simp⟩,by rw [h0,g1],none,0,by rw [h1,k1];rfl,Nat.le_refl _,Kd.C_nil _ w⟩
   ·simp at k1 g1
    simp only [if_true] at k5
    have hl2:(zs.take l').length=l':=by rw [List.length_take];omega
    refine⟨⟨z,zs.take l'⟩,⟨i64_bounds (by simpa using g3),fun y hy=>u8_wf (k8 y (List.mem_of_mem_take hy))⟩,by rw [h0,g1],some a',c',by rw [h1,k1];show _=some (Value.slice (some a') (zs.take l').length c');rw [hl2],by show (zs.take l').length<=c';rw [hl2];exact k3,?_⟩
    show (Kd.int .u8).C w (some a') (zs.take l').length (zs.take l')
    refine Kd.C_of_reads (enc:=Value.int .u8) (d:=(0:Int)) (h1:=fun _=>rfl) ⟨rfl,by rw [hl2];unfold maxLen at k4;omega,fun hp=>⟨a',rfl,fun j hj=>?_⟩⟩
    rw [hl2] at hj
    rw [k7 j (by omega),List.getD_eq_getElem?_getD,List.getD_eq_getElem?_getD,List.getElem?_take_of_lt hj]
  haveI:Inhabited F.S98:=⟨F.z98⟩
  obtain⟨f,hf⟩:=Go.Deep.choose_lt each
  have hl':((List.range len).map f).length=len:=by simp
  refine⟨(List.range len).map f,hl',hl,⟨hl',by omega,fun _=>⟨ad,rfl,fun j p hj=>?_⟩⟩,?_⟩
  ·have hjl:j<len:=by
    have:=(List.getElem?_eq_some_iff.1 hj).1
    rwa [hl'] at this
   rw [List.getElem?_map,List.getElem?_range hjl] at hj
   obtain rfl:=Option.some.inj hj
   obtain⟨_,g0,A1,cc,g1,g2,g3⟩:=hf j hjl
   refine⟨_,rfl,F.k98_mk w (f j) g2 g3,fun i u hu=>?_⟩
   match i,hu with
   | 0,hu=>
    obtain rfl:Value.int .i64 (f j).f0=u:=by simpa using hu
    exact g0
   | 1,hu=>
    obtain rfl:Value.slice A1 (f j).f1.length cc=u:=by simpa using hu
    exact g1
   | i+2,hu=>simp at hu
  ·intro s hs
   obtain⟨j,hj,rfl⟩:=List.mem_map.1 hs
   exact (hf j (List.mem_range.1 hj)).1
theorem own_nil' (w:World)(base:Nat):w.ownsRow base 5 1 (.slice none 0 0) ([]:List Int).length (nums .u8 []):=⟨rfl,.inl ⟨rfl,rfl⟩⟩
end Go.Proofs.YtgccjgpdjkhpdaaGreat.B
namespace Go.Proofs.YtgccjgpdjkhpdaaGreat.F
open Go.RowKit Go.Proofs.YtgccjgpdjkhpdaaGreatW.PrintWords Go.Proofs.YtgccjgpdjkhpdaaGreatW.PrintLast Go.Proofs.YtgccjgpdjkhpdaaGreatW.PrintMore
attribute [local go_sem] max2_int min2_int max_two min_two max_three min_three max_four min_four
set_option linter.unusedVariables false
set_option linter.unusedSimpArgs false
def laws_qrBytes.l0:Nat->List Int->List Int->Int->Int->Option (Bool)
 | 0,_,_,_,_=>none
 | k+1,x0,x1,x12,x13=>if x13<x12 then (if 0<=x13 then (if x13<(x0.length:Int) then (if x13<(x1.length:Int) then (if (rd x0 x13)=(rd x1 x13) then (laws_qrBytes.l0 k x0 x1 x12 (wrap64 (x13+1))) else (some false)) else (none)) else (none)) else (none)) else (some true)
def laws_qrBytes.f (k:Nat)(l0:List Int)(l1:List Int):Option (Bool):=if (l0.length:Int)=(l1.length:Int) then (laws_qrBytes.l0 k l0 l1 (l0.length:Int) 0) else (some false)
theorem laws_qrBytes.mono_l:∀ k,(∀ y0 y1 y2 y3,LeO (laws_qrBytes.l0 k y0 y1 y2 y3) (laws_qrBytes.l0 (k+1) y0 y1 y2 y3))
 | 0=>fun _ _ _ _ r h=>by simp [laws_qrBytes.l0] at h
 | k+1=>by
  have ih0:=laws_qrBytes.mono_l k
  ·intro y0 y1 y2 y3
   unfold laws_qrBytes.l0
   repeat' first
   | (with_reducible exact ih0 _ _ _ _)
   | (with_reducible exact LeO.refl _)
   | (with_reducible exact LeO.none _)
   | (with_reducible refine LeO.ite ?_ ?_)
   | (with_reducible refine LeO.bind ?_ (fun _=>?_))
   | exact ih0 _ _ _ _
   | exact LeO.none _
   | refine LeO.ite ?_ ?_
   | refine LeO.bind ?_ (fun _=>?_)
theorem laws_qrBytes.mono:∀ a0 a1 k,LeO (laws_qrBytes.f k a0 a1) (laws_qrBytes.f (k+1) a0 a1):=by
 intro a0 a1 k
 have ih0:=laws_qrBytes.mono_l k
 unfold laws_qrBytes.f
 repeat' first
   | (with_reducible exact ih0 _ _ _ _)
   | (with_reducible exact LeO.refl _)
   | (with_reducible exact LeO.none _)
   | (with_reducible refine LeO.ite ?_ ?_)
   | (with_reducible refine LeO.bind ?_ (fun _=>?_))
   | exact ih0 _ _ _ _
   | exact LeO.none _
   | refine LeO.ite ?_ ?_
   | refine LeO.bind ?_ (fun _=>?_)
set_option maxHeartbeats 8000000 in
set_option maxRecDepth 100000 in
theorem laws_qrBytes.calls (k:Nat)(A0:Option Addr)(c0:Nat)(l0:List Int)(A1:Option Addr)(c1:Nat)(l1:List Int)(r:Bool)(w:World)(hr0:Kd.C (Kd.int .u8) w A0 l0.length l0)(hc0:l0.length<=c0)(hr1:Kd.C (Kd.int .u8) w A1 l1.length l1)(hc1:l1.length<=c1)(h:laws_qrBytes.f k l0 l1=some r) :
  Calls Tryz.prog 54 #[.slice A0 l0.length c0,.slice A1 l1.length c1] w fun e w'=>e=.returned (.bool r)/\Drawn0 w w':=by
 have HR0:=Aside0.mk hr0
 have HC0:=Aside0.mk hc0
 clear hr0 hc0
 have HR1:=Aside0.mk hr1
 have HC1:=Aside0.mk hc1
 clear hr1 hc1
 have H:(if (l0.length:Int)=(l1.length:Int) then (laws_qrBytes.l0 k l0 l1 (l0.length:Int) 0) else (some false))=some r:=h
 clear h
 by_cases c3:(l0.length:Int)=(l1.length:Int)
 ·rw [if_pos c3] at H
  have c3b0:((l0.length:Int)==(l1.length:Int))=true:=beq_iff_eq.mpr c3
  have c3b1:((l0.length:Int) != (l1.length:Int))=false:=bne_eq_false_iff_eq.mpr c3
  have c3b2:(l0.length==l1.length)=true:=by first | simpa using c3 | (simp at c3 ⊢;omega)
  clear c3
  have H':=Aside0.mk H
  clear H
  go_enter Tryz.func54,Tryz.ntmps54
  go_wp2
  repeat (go_quiet (fail);try go_wp2)
  go_loopg [13] k (fun kq v13 w'=>∃ (x13_1:Int),v13=.int .i64 x13_1/\Aside0 (laws_qrBytes.l0 kq l0 l1 (l0.length:Int) x13_1=some r)/\Aside0 (kq<=k)/\Drawn0 w w')
  case atStart=>exact⟨(0),(by first | rfl | (simp;done) | (simp [*];done)),H',⟨Nat.le_refl _⟩,by repeat (first | exact Drawn0.refl _ | apply Drawn0.step)⟩
  case round=>
   clear H'
   try clear c1
   try clear p2
   try clear c3
   try clear c3b0
   try clear c3b1
   try clear c3b2
   obtain⟨x13_1,rfl,HA,HK1,⟨m1,rfl⟩⟩:=hrel
   cases gk with
   | zero=>exact absurd HA.out (by simp [laws_qrBytes.l0])
   | succ k1=>
    have H:=HA.out
    clear HA
    simp only [laws_qrBytes.l0] at H
    by_cases c4:x13_1<(l0.length:Int)
    ·rw [if_pos c4] at H
     have c4b0:decide (x13_1<(l0.length:Int))=true:=decide_eq_true c4
     clear c4
     by_cases c5:0<=x13_1
     ·rw [if_pos c5] at H
      have c5b0:decide (0<=x13_1)=true:=decide_eq_true c5
      clear c5
      by_cases c6:x13_1<(l0.length:Int)
      ·rw [if_pos c6] at H
       have c6b0:decide (x13_1<(l0.length:Int))=true:=decide_eq_true c6
       clear c6
       by_cases c7:x13_1<(l1.length:Int)
       ·rw [if_pos c7] at H
        have c7b0:decide (x13_1<(l1.length:Int))=true:=decide_eq_true c7
        clear c7
        by_cases c8:(rd l0 x13_1)=(rd l1 x13_1)
        ·rw [if_pos c8] at H
         have c8b0:((rd l0 x13_1)==(rd l1 x13_1))=true:=beq_iff_eq.mpr c8
         have c8b1:((rd l0 x13_1) != (rd l1 x13_1))=false:=bne_eq_false_iff_eq.mpr c8
         clear c8
         have H':=Aside0.mk H
         clear H
         have p418:0<=(x13_1:Int):=of_decide_eq_true (by first | (with_reducible assumption) | assumption)
         have q418:x13_1<(l0.length:Int):=of_decide_eq_true (by first | (with_reducible assumption) | assumption)
         obtain⟨ad418,e418,hx418_0⟩:=Kd.at_int HR0.out x13_1 p418 q418
         cases e418
         replace p418:=eq_true p418
         replace q418:=eq_true q418
         have p419:0<=(x13_1:Int):=of_decide_eq_true (by first | (with_reducible assumption) | assumption)
         have q419:x13_1<(l1.length:Int):=of_decide_eq_true (by first | (with_reducible assumption) | assumption)
         obtain⟨ad419,e419,hx419_0⟩:=Kd.at_int HR1.out x13_1 p419 q419
         cases e419
         replace p419:=eq_true p419
         replace q419:=eq_true q419
         go_wp2
         repeat (go_quiet (fail);try go_wp2)
         go_roundg k1
         case measure=>have:=HK1.out;omega
         case rel=>exact⟨(wrap64 (x13_1+1)),(by first | rfl | (simp;done) | (simp [*];done)),H',⟨by have:=HK1.out;omega⟩,by repeat (first | exact Drawn0.refl _ | apply Drawn0.step)⟩
        ·rw [if_neg c8] at H
         have c8b0:((rd l0 x13_1)==(rd l1 x13_1))=false:=beq_eq_false_iff_ne.mpr c8
         have c8b1:((rd l0 x13_1) != (rd l1 x13_1))=true:=bne_iff_ne.mpr c8
         obtain rfl:=Option.some.inj H
         have p418:0<=(x13_1:Int):=of_decide_eq_true (by first | (with_reducible assumption) | assumption)
         have q418:x13_1<(l0.length:Int):=of_decide_eq_true (by first | (with_reducible assumption) | assumption)
         obtain⟨ad418,e418,hx418_0⟩:=Kd.at_int HR0.out x13_1 p418 q418
         cases e418
         replace p418:=eq_true p418
         replace q418:=eq_true q418
         have p419:0<=(x13_1:Int):=of_decide_eq_true (by first | (with_reducible assumption) | assumption)
         have q419:x13_1<(l1.length:Int):=of_decide_eq_true (by first | (with_reducible assumption) | assumption)
         obtain⟨ad419,e419,hx419_0⟩:=Kd.at_int HR1.out x13_1 p419 q419
         cases e419
         replace p419:=eq_true p419
         replace q419:=eq_true q419
         go_wp2
         repeat (go_quiet (fail);try go_wp2)
         go_ret
         exact⟨by first | rfl | (simp;done) | (simp [*];done),by repeat (first | exact Drawn0.refl _ | apply Drawn0.step)⟩
       ·rw [if_neg c7] at H
        exact absurd H (by simp)
      ·rw [if_neg c6] at H
       exact absurd H (by simp)
     ·rw [if_neg c5] at H
      exact absurd H (by simp)
    ·rw [if_neg c4] at H
     have c4b0:decide (x13_1<(l0.length:Int))=false:=decide_eq_false c4
     clear c4
     obtain rfl:=Option.some.inj H
     go_wp2
     repeat (go_quiet (fail);try go_wp2)
     go_ret
     exact⟨by first | rfl | (simp;done) | (simp [*];done),by repeat (first | exact Drawn0.refl _ | apply Drawn0.step)⟩
 ·rw [if_neg c3] at H
  have c3b0:((l0.length:Int)==(l1.length:Int))=false:=beq_eq_false_iff_ne.mpr c3
  have c3b1:((l0.length:Int) != (l1.length:Int))=true:=bne_iff_ne.mpr c3
  have c3b2:(l0.length==l1.length)=false:=by first | simpa using c3 | (simp at c3 ⊢;omega)
  obtain rfl:=Option.some.inj H
  go_enter Tryz.func54,Tryz.ntmps54
  go_wp2
  repeat (go_quiet (fail);try go_wp2)
  go_ret
  exact⟨by first | rfl | (simp;done) | (simp [*];done),by repeat (first | exact Drawn0.refl _ | apply Drawn0.step)⟩
end Go.Proofs.YtgccjgpdjkhpdaaGreat.F
