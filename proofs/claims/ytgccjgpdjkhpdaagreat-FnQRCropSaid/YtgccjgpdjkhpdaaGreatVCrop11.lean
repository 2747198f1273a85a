import Derived.Laws.OwnMore
import Derived.Deep.RegionWith
import Derived.Test.YtgccjgpdjkhpdaaGreatVCrop10
/-! Own texts of this claim, part 11. -/
namespace Go.Proofs.YtgccjgpdjkhpdaaGreat.B
open Go.RowKit Go.Proofs.YtgccjgpdjkhpdaaGreatW.PrintWords Go.Proofs.YtgccjgpdjkhpdaaGreatW.PrintLast Go.Proofs.YtgccjgpdjkhpdaaGreatW.PrintMore
set_option linter.unusedVariables false
set_option linter.unusedSimpArgs false
def natBits (n k:Nat):List Bool:=(List.range k).map fun i=>n.testBit (k-1-i)
theorem natBits_len (n k:Nat):(natBits n k).length=k:=by simp [natBits]
theorem natBits_succ (n k:Nat):natBits n (k+1)=natBits (n/2) k++[n.testBit 0]:=by
 unfold natBits
 rw [List.range_succ,List.map_append]
 congr 1
 ·apply List.map_congr_left
  intro i hi
  have:=List.mem_range.1 hi
  rw [Nat.testBit_div_two,show k-1-i+1=k+1-1-i by omega]
 ·simp
theorem bval_natBits (n k:Nat):bval (natBits n k)=n%2 ^ k:=by
 induction k generalizing n with
 | zero=>simp [natBits,bval,Nat.mod_one]
 | succ k ih=>
  rw [natBits_succ,bval_append,ih]
  have h1:bval [n.testBit 0]=n%2:=by
   simp [bval,Nat.testBit_zero]
   rcases Nat.mod_two_eq_zero_or_one n with h | h<;>simp [h]
  rw [h1,show (2:Nat) ^ [n.testBit 0].length=2 from rfl,show 2 ^ (k+1)=2*2 ^ k by rw [Nat.pow_succ,Nat.mul_comm]]
  have h3:=Nat.mod_mul (a:=2) (b:=2 ^ k) (x:=n)
  omega
theorem rd_at (bs:List Nat)(pre post:List Bool)(n k:Nat)(h:streamBits bs=pre++(natBits n k++post))(hn:n<2 ^ k):rdBits bs pre.length k=n:=by
 unfold rdBits seg
 rw [h,List.drop_left,List.take_left' (natBits_len n k),bval_natBits,Nat.mod_eq_of_lt hn]
theorem room_at (bs:List Nat)(pre post:List Bool)(n k:Nat)(h:streamBits bs=pre++(natBits n k++post)):pre.length+k<=8*bs.length:=by
 have:=congrArg List.length h
 rw [streamBits_len,List.length_append,List.length_append,natBits_len] at this
 omega
def isDig (x:Int):Prop:=48<=x/\x<=57
def numData:List Int->List Bool
 | a :: b :: c :: l=>natBits ((a-48)*100+(b-48)*10+(c-48)).toNat 10++numData l
 | [a,b]=>natBits ((a-48)*10+(b-48)).toNat 7
 | [a]=>natBits (a-48).toNat 4
 | []=>[]
theorem num_seg:∀ (t:List Int) (bs:List Nat) (pre post:List Bool) (acc:List Int),streamBits bs=pre++(numData t++post)->(∀ x∈t,isDig x)->
  numSeg bs pre.length t.length acc=some (acc++t,pre.length+(numData t).length):=by
 intro t
 induction t using numData.induct with
 | case1 a b c l ih=>
  intro bs pre post acc h hd
  obtain⟨ha,ha2⟩:=hd a (by simp)
  obtain⟨hb,hb2⟩:=hd b (by simp)
  obtain⟨hc,hc2⟩:=hd c (by simp)
  rw [numData,List.append_assoc] at h
  obtain⟨n,hn⟩:∃ n,((a-48)*100+(b-48)*10+(c-48)).toNat=n:=⟨_,rfl⟩
  rw [hn] at h
  have hn1:n<1000:=by omega
  have hr:=rd_at bs pre _ n 10 h (by omega)
  have hm:=room_at bs pre _ n 10 h
  rw [numSeg,if_pos (by simp),hr,if_pos ⟨hm,hn1⟩]
  have hi:=ih bs (pre++natBits n 10) post (acc++[48+((n/100:Nat):Int)]++[48+((n/10%10:Nat):Int)]++[48+((n%10:Nat):Int)]) (by rw [h];simp) (fun x hx=>hd x (by simp [hx]))
  rw [List.length_append,natBits_len] at hi
  rw [show (a :: b :: c :: l).length-3=l.length by simp,hi,numData,hn]
  rw [show (48+((n/100:Nat):Int))=a by omega,show (48+((n/10%10:Nat):Int))=b by omega,show (48+((n%10:Nat):Int))=c by omega]
  simp [natBits_len,Nat.add_assoc]
 | case2 a b=>
  intro bs pre post acc h hd
  obtain⟨ha,ha2⟩:=hd a (by simp)
  obtain⟨hb,hb2⟩:=hd b (by simp)
  rw [numData] at h
  obtain⟨n,hn⟩:∃ n,((a-48)*10+(b-48)).toNat=n:=⟨_,rfl⟩
  rw [hn] at h
  have hr:=rd_at bs pre _ n 7 h (by omega)
  have hm:=room_at bs pre _ n 7 h
  rw [numSeg,if_neg (by simp),if_pos (by simp),hr,if_pos ⟨hm,by omega⟩,numData,natBits_len]
  rw [show (48+((n/10:Nat):Int))=a by omega,show (48+((n%10:Nat):Int))=b by omega]
  simp
 | case3 a=>
  intro bs pre post acc h hd
  obtain⟨ha,ha2⟩:=hd a (by simp)
  rw [numData] at h
  obtain⟨n,hn⟩:∃ n,(a-48).toNat=n:=⟨_,rfl⟩
  rw [hn] at h
  have hr:=rd_at bs pre _ n 4 h (by omega)
  have hm:=room_at bs pre _ n 4 h
  rw [numSeg,if_neg (by simp),if_neg (by simp),if_pos (by simp),hr,if_pos ⟨hm,by omega⟩,numData,natBits_len]
  rw [show (48+(n:Int))=a by omega]
 | case4=>
  intro bs pre post acc h hd
  rw [numSeg,if_neg (by simp),if_neg (by simp),if_neg (by simp)]
  simp [numData]
def alNum (x:Int):Nat:=alTab.findIdx fun (y:Nat)=>(y:Int)==x
theorem alNum_look:∀ k:Fin 45,alNum (alCh k.val)=k.val:=by decide +kernel
theorem alCh_num (x:Int)(h:alNum x<45):alCh (alNum x)=x:=by
 have hl:alTab.length=45:=rfl
 have hx:=List.findIdx_getElem (w:=show List.findIdx (fun y:Nat=>(y:Int)==x) alTab<alTab.length by rw [hl];exact h)
 unfold alCh
 rw [List.getD_eq_getElem?_getD,List.getElem?_eq_getElem (by rw [hl];exact h),Option.getD_some]
 exact eq_of_beq hx
def alData:List Int->List Bool
 | a :: b :: l=>natBits (alNum a*45+alNum b) 11++alData l
 | [a]=>natBits (alNum a) 6
 | []=>[]
theorem al_seg:∀ (t:List Int) (bs:List Nat) (pre post:List Bool) (acc:List Int),streamBits bs=pre++(alData t++post)->(∀ x∈t,alNum x<45)->
  alSeg bs pre.length t.length acc=some (acc++t,pre.length+(alData t).length):=by
 intro t
 induction t using alData.induct with
 | case1 a b l ih=>
  intro bs pre post acc h hd
  have ha:=hd a (by simp)
  have hb:=hd b (by simp)
  rw [alData,List.append_assoc] at h
  obtain⟨n,hn⟩:∃ n,alNum a*45+alNum b=n:=⟨_,rfl⟩
  rw [hn] at h
  have hr:=rd_at bs pre _ n 11 h (by omega)
  have hm:=room_at bs pre _ n 11 h
  have hq:n/45=alNum a:=by omega
  have hq2:n%45=alNum b:=by omega
  rw [alSeg,if_pos (by simp),hr,if_pos ⟨hm,by omega⟩,hq,hq2,alCh_num a ha,alCh_num b hb]
  have hi:=ih bs (pre++natBits n 11) post (acc++[a]++[b]) (by rw [h];simp) (fun x hx=>hd x (by simp [hx]))
  rw [List.length_append,natBits_len] at hi
  rw [show (a :: b :: l).length-2=l.length by simp,hi,alData,hn]
  simp [natBits_len,Nat.add_assoc]
 | case2 a=>
  intro bs pre post acc h hd
  have ha:=hd a (by simp)
  rw [alData] at h
  have hr:=rd_at bs pre _ _ 6 h (by omega)
  have hm:=room_at bs pre _ _ 6 h
  rw [alSeg,if_neg (by simp),if_pos (by simp),hr,if_pos ⟨hm,ha⟩,alData,natBits_len,alCh_num a ha]
 | case3=>
  intro bs pre post acc h hd
  rw [alSeg,if_neg (by simp),if_neg (by simp)]
  simp [alData]
def byData (t:List Int):List Bool:=t.flatMap fun x=>natBits x.toNat 8
theorem byData_len (t:List Int):(byData t).length=8*t.length:=by
 unfold byData
 induction t with
 | nil=>rfl
 | cons x t ih=>rw [List.flatMap_cons,List.length_append,ih,natBits_len,List.length_cons];omega
theorem by_seg:∀ (t:List Int) (bs:List Nat) (pre post:List Bool),streamBits bs=pre++(byData t++post)->(∀ x∈t,0<=x/\x<=255)->byteSeg bs pre.length t.length=t:=by
 intro t
 induction t with
 | nil=>intros;rfl
 | cons x t ih=>
  intro bs pre post h hd
  obtain⟨h0,h1⟩:=hd x (by simp)
  have e:byData (x :: t)=natBits x.toNat 8++byData t:=by simp [byData]
  rw [e,List.append_assoc] at h
  have hr:=rd_at bs pre _ _ 8 h (by omega)
  have hi:=ih bs (pre++natBits x.toNat 8) post (by rw [h];simp) (fun y hy=>hd y (by simp [hy]))
  rw [List.length_append,natBits_len] at hi
  unfold byteSeg at hi ⊢
  rw [List.length_cons,List.range_succ_eq_map,List.map_cons,List.map_map,Nat.mul_zero,Nat.add_zero,hr]
  have e2:((fun i=>((rdBits bs (pre.length+8*i) 8:Nat):Int)) ∘ Nat.succ)=fun i=>((rdBits bs (pre.length+8+8*i) 8:Nat):Int):=by
   funext i
   show ((rdBits bs (pre.length+8*(i+1)) 8:Nat):Int)=_
   rw [show pre.length+8*(i+1)=pre.length+8+8*i by omega]
  rw [e2,hi,show ((x.toNat:Nat):Int)=x by omega]
structure Sg where
 mode:Nat
 text:List Int
def sgData (s:Sg):List Bool:=if s.mode=1 then numData s.text else if s.mode=2 then alData s.text else byData s.text
structure Sg.Ok (s:Sg)(v:Nat):Prop where
 mode:s.mode=1\/s.mode=2\/s.mode=4
 num:s.mode=1->∀ x∈s.text,isDig x
 al:s.mode=2->∀ x∈s.text,alNum x<45
 by_:∀ x∈s.text,0<=x/\x<=255
 len:s.text.length<2 ^ cntBits s.mode v
def sgBits (s:Sg)(v:Nat):List Bool:=natBits s.mode 4++(natBits s.text.length (cntBits s.mode v)++sgData s)
def sgStream (l:List Sg)(v:Nat):List Bool:=l.flatMap fun s=>sgBits s v
def sgOut (fc:Bool)(s:Sg):List Int:=if fc=true/\s.mode=2 then gs1 s.text else s.text
def sgText (fc:Bool)(l:List Sg):List Int:=l.flatMap (sgOut fc)
def sgSegs (l:List Sg):List (List Int):=l.flatMap fun s=>if s.mode=4 then [s.text] else []
theorem drop_app {α:Type}(a b:List α):(a++b).drop a.length=b:=List.drop_left
theorem rd_segs (bs:List Nat)(v:Nat)(post:List Bool)(hpost:post.length<4\/∃ q,post=natBits 0 4++q):∀ (l:List Sg) (pre:List Bool) (st:PS),(∀ s∈l,s.Ok v)->
  streamBits bs=pre++(sgStream l v++post)->st.pos=pre.length->
  ∃ p,Rd bs v st (some { st with pos:=p,out:=st.out++sgText st.fc l,segs:=st.segs++sgSegs l }):=by
 intro l
 induction l with
 | nil=>
  intro pre st _ h hp
  simp only [sgStream,List.flatMap_nil,List.nil_append] at h
  have hl:=congrArg List.length h
  rw [streamBits_len,List.length_append] at hl
  rcases hpost with hq | ⟨q,hq⟩
  ·refine⟨st.pos,?_⟩
   have:=Rd.done (bs:=bs) (v:=v) st (by omega) (by omega)
   simpa [sgText,sgSegs] using this
  ·subst hq
   have:=Rd.stop (bs:=bs) (v:=v) st (by rw [List.length_append,natBits_len] at hl;omega) (by rw [hp];exact rd_at bs pre q 0 4 h (by decide))
   exact⟨st.pos+4,by simpa [sgText,sgSegs] using this⟩
 | cons s l ih=>
  intro pre st hok h hp
  have hs:=hok s (by simp)
  have h1:streamBits bs=pre++(natBits s.mode 4++(natBits s.text.length (cntBits s.mode v)++(sgData s++(sgStream l v++post)))):=by
   rw [h];simp [sgStream,sgBits,List.append_assoc]
  have hm16:s.mode<16:=by rcases hs.mode with h | h | h<;>omega
  have r1:=rd_at bs pre _ _ 4 h1 hm16
  have h2:streamBits bs=(pre++natBits s.mode 4)++(natBits s.text.length (cntBits s.mode v)++(sgData s++(sgStream l v++post))):=by rw [h1];simp
  have r2:=rd_at bs _ _ _ _ h2 hs.len
  have m2:=room_at bs _ _ _ _ h2
  have h3:streamBits bs=(pre++natBits s.mode 4++natBits s.text.length (cntBits s.mode v))++(sgData s++(sgStream l v++post)):=by rw [h2];simp
  rw [List.length_append,natBits_len,<- hp] at r2 m2
  rw [<- hp] at r1
  have hpl:(pre++natBits s.mode 4++natBits s.text.length (cntBits s.mode v)).length=st.pos+4+cntBits s.mode v:=by rw [List.length_append,List.length_append,natBits_len,natBits_len,hp]
  have hnext:streamBits bs=(pre++natBits s.mode 4++natBits s.text.length (cntBits s.mode v)++sgData s)++(sgStream l v++post):=by rw [h3];simp
  have hnl:(pre++natBits s.mode 4++natBits s.text.length (cntBits s.mode v)++sgData s).length=st.pos+4+cntBits s.mode v+(sgData s).length:=by rw [List.length_append,hpl]
  obtain⟨p,hr⟩:=ih _ { st with pos:=st.pos+4+cntBits s.mode v+(sgData s).length,out:=st.out++sgOut st.fc s,segs:=st.segs++(if s.mode=4 then [s.text] else []) } (fun x hx=>hok x (by simp [hx])) hnext hnl.symm
  refine⟨p,?_⟩
  have hr':Rd bs v { st with pos:=st.pos+4+cntBits s.mode v+(sgData s).length,out:=st.out++sgOut st.fc s,segs:=st.segs++(if s.mode=4 then [s.text] else []) } (some { st with pos:=p,out:=st.out++sgText st.fc (s :: l),segs:=st.segs++sgSegs (s :: l) }):=by
   simpa [sgText,sgSegs,List.append_assoc] using hr
  clear hr
  rcases hs.mode with hm | hm | hm
  ·rw [hm] at r1 r2 m2 hpl
   have hd:sgData s=numData s.text:=by simp [sgData,hm]
   rw [hd,hm] at h3
   have hn:=num_seg s.text bs _ _ st.out h3 (hs.num hm)
   rw [hpl] at hn
   refine Rd.num st _ _ _ r1 m2 (by rw [r2];exact hn) ?_
   have e:sgOut st.fc s=s.text:=by simp [sgOut,hm]
   rw [e,hm,hd] at hr'
   simpa [hm] using hr'
  ·rw [hm] at r1 r2 m2 hpl
   have hd:sgData s=alData s.text:=by simp [sgData,hm]
   rw [hd,hm] at h3
   have hn:=al_seg s.text bs _ _ st.out h3 (hs.al hm)
   rw [hpl] at hn
   refine Rd.al st _ _ _ r1 m2 (by rw [r2];exact hn) ?_
   have e:alOut st.fc st.out (st.out++s.text)=st.out++sgOut st.fc s:=by
    unfold alOut sgOut
    rw [drop_app]
    cases st.fc<;>simp [hm]
   rw [hm,hd] at hr'
   rw [e]
   simpa [hm] using hr'
  ·rw [hm] at r1 r2 m2 hpl
   have hd:sgData s=byData s.text:=by simp [sgData,hm]
   rw [hd,hm] at h3
   have hn:=by_seg s.text bs _ _ h3 hs.by_
   rw [hpl] at hn
   have hroom:st.pos+4+cntBits 4 v+8*s.text.length<=8*bs.length:=by
    have:=congrArg List.length hnext
    rw [streamBits_len,List.length_append,hnl,hd,byData_len,hm] at this
    omega
   refine Rd.byte st s.text.length _ r1 m2 r2 hroom ?_
   have e:sgOut st.fc s=s.text:=by simp [sgOut,hm]
   rw [e,hm,hd,byData_len] at hr'
   rw [hn]
   simpa [hm] using hr'
theorem gs1_other (x:Int)(l:List Int)(h:x≠37):gs1 (x :: l)=x :: gs1 l:=by
 cases l with
 | nil=>simp [gs1,h]
 | cons y l=>rw [gs1,if_neg h]
theorem gs1_two (l:List Int):gs1 (37 :: 37 :: l)=37 :: gs1 l:=by rw [gs1,if_pos rfl,if_pos rfl]
theorem gs1_sep (y:Int)(l:List Int)(h:y≠37):gs1 (37 :: y :: l)=29 :: gs1 (y :: l):=by rw [gs1,if_pos rfl,if_neg h]
theorem gs1_last:gs1 [37]=[29]:=by rw [gs1,if_pos rfl]
theorem gs1_len (l:List Int):(gs1 l).length<=l.length:=by
 induction l using gs1.induct with
 | case1=>simp [gs1]
 | case2 x=>simp [gs1]
 | case3 l ih=>rw [gs1_two];simp;omega
 | case4 y l h ih=>rw [gs1_sep y l h];simp at ih ⊢;omega
 | case5 x y l h ih=>rw [gs1_other x _ h];simp at ih ⊢;omega
theorem gs_next (zs:List Int)(i:Nat)(hi:i<zs.length)(h:zs.getD i 0≠37):zs.take (i+1)++gs1 (zs.drop (i+1))=zs.take i++gs1 (zs.drop i):=by
 have hg:zs.getD i 0=zs[i]:=by rw [List.getD_eq_getElem?_getD,List.getElem?_eq_getElem hi];rfl
 rw [hg] at h
 rw [List.drop_eq_getElem_cons hi,gs1_other _ _ h,List.take_succ_eq_append_getElem hi,List.append_assoc]
 rfl
def dropAt (zs:List Int)(i:Nat):List Int:=zs.take i++zs.drop (i+1)
theorem dropAt_len (zs:List Int)(i:Nat)(hi:i<zs.length):(dropAt zs i).length=i+(zs.length-(i+1)):=by simp [dropAt];omega
theorem gs_two (zs:List Int)(i:Nat)(hi:i+1<zs.length)(h:zs.getD i 0=37)(h2:zs.getD (i+1) 0=37):(dropAt zs i).take (i+1)++gs1 ((dropAt zs i).drop (i+1))=zs.take i++gs1 (zs.drop i):=by
 have hg:zs.getD i 0=zs[i]:=by rw [List.getD_eq_getElem?_getD,List.getElem?_eq_getElem (by omega)];rfl
 have hg2:zs.getD (i+1) 0=zs[i+1]:=by rw [List.getD_eq_getElem?_getD,List.getElem?_eq_getElem hi];rfl
 rw [hg] at h
 rw [hg2] at h2
 have e:dropAt zs i=zs.take i++37 :: zs.drop (i+2):=by unfold dropAt;rw [List.drop_eq_getElem_cons hi,h2]
 have hl:(zs.take i).length=i:=by simp;omega
 rw [e,List.drop_eq_getElem_cons (show i<zs.length by omega),List.drop_eq_getElem_cons hi,h,h2,gs1_two]
 have e1:(zs.take i++37 :: zs.drop (i+2)).take (i+1)=zs.take i++[37]:=by
  rw [List.take_append,hl,show i+1-i=1 by omega,List.take_of_length_le (by omega)];rfl
 have e2:(zs.take i++37 :: zs.drop (i+2)).drop (i+1)=zs.drop (i+2):=by
  rw [List.drop_append,hl,show i+1-i=1 by omega,List.drop_of_length_le (by omega)];rfl
 rw [e1,e2]
 simp
theorem gs_sep (zs:List Int)(i:Nat)(hi:i<zs.length)(h:zs.getD i 0=37)(h2:zs.length<=i+1\/zs.getD (i+1) 0≠37):(zs.set i 29).take (i+1)++gs1 ((zs.set i 29).drop (i+1))=zs.take i++gs1 (zs.drop i):=by
 have hg:zs.getD i 0=zs[i]:=by rw [List.getD_eq_getElem?_getD,List.getElem?_eq_getElem hi];rfl
 rw [hg] at h
 have e1:(zs.set i 29).take (i+1)=zs.take i++[29]:=by
  rw [List.take_succ_eq_append_getElem (by simpa using hi),List.take_set_of_le (Nat.le_refl i)]
  simp
 have e2:(zs.set i 29).drop (i+1)=zs.drop (i+1):=List.drop_set_of_lt (by omega)
 rw [e1,e2,List.drop_eq_getElem_cons hi,h]
 have e3:gs1 (37 :: zs.drop (i+1))=29 :: gs1 (zs.drop (i+1)):=by
  rcases Nat.lt_or_ge (i+1) zs.length with h3 | h3
  ·rcases h2 with h2 | h2
   ·omega
   ·have hg2:zs.getD (i+1) 0=zs[i+1]:=by rw [List.getD_eq_getElem?_getD,List.getElem?_eq_getElem h3];rfl
    rw [hg2] at h2
    rw [List.drop_eq_getElem_cons h3,gs1_sep _ _ h2]
  ·rw [List.drop_of_length_le h3,gs1_last];rfl
 rw [e3]
 simp
def setMany (xs:List Value):Nat->List Value->List Value
 | _,[]=>xs
 | o,v :: r=>setMany (xs.set o v) (o+1) r
theorem setMany_eq:∀ (vs:List Value) (o:Nat) (xs:List Value),o+vs.length<=xs.length->setMany xs o vs=xs.take o++vs++xs.drop (o+vs.length):=by
 intro vs
 induction vs with
 | nil=>intro o xs h;simp [setMany]
 | cons v r ih=>
  intro o xs h
  rw [List.length_cons] at h
  rw [setMany,ih (o+1) _ (by simp;omega),List.length_cons]
  have e1:(xs.set o v).take (o+1)=xs.take o++[v]:=by
   rw [List.take_succ_eq_append_getElem (by simp;omega),List.take_set_of_le (Nat.le_refl o)]
   simp
  have e2:(xs.set o v).drop (o+1+r.length)=xs.drop (o+1+r.length):=List.drop_set_of_lt (by omega)
  rw [e1,e2,show o+(r.length+1)=o+1+r.length by omega]
  simp
theorem own_setCells {base g n cap:Nat}{e:TypeId}:∀ (vs:List Value) (o:Nat) (w:World) (xs:List Value),w.ownsRow base e 1 (.slice (some ⟨g,0,none⟩) n cap) n xs->
  (w.setCells g o vs).ownsRow base e 1 (.slice (some ⟨g,0,none⟩) n cap) n (setMany xs o vs)/\w.grownBy (w.setCells g o vs) (some g):=by
 intro vs
 induction vs with
 | nil=>intro o w xs h;exact⟨h,World.grownBy.refl w _⟩
 | cons v r ih=>
  intro o w xs h
  obtain⟨h1,h2⟩:=h.stored o v
  obtain⟨h3,h4⟩:=ih (o+1) _ _ h1
  exact⟨h3,h2.trans h4⟩
theorem own_fewer {w:World}{base g n cap m:Nat}{e:TypeId}{xs:List Value}(h:w.ownsRow base e 1 (.slice (some ⟨g,0,none⟩) n cap) n xs)(hm:m<=n):w.ownsRow base e 1 (.slice (some ⟨g,0,none⟩) m cap) m (xs.take m):=by
 refine⟨by have:=h.1;simp;omega,.inr ?_⟩
 rcases h.2 with⟨h',_⟩ | ⟨g',cap',cur,h',hb,hh,hnc,hcm,hcs,ht⟩
 ·cases h'
 ·simp only [Value.slice.injEq,Option.some.injEq,Addr.mk.injEq,and_true,true_and] at h'
  obtain⟨rfl,rfl⟩:=h'
  refine⟨g,cap,cur,rfl,hb,hh,by omega,hcm,hcs,?_⟩
  rw [<- ht,List.take_take,Nat.mul_one,Nat.mul_one,Nat.min_eq_left hm]
def behind (zs:List Int)(i:Nat):List Value:=nums .u8 (zs.drop (i+1))
theorem behind_len (zs:List Int)(i:Nat):(behind zs i).length=zs.length-(i+1):=by simp [behind,nums]
theorem own_dropAt {w:World}{base g n cap i:Nat}{zs:List Int}(h:w.ownsRow base 5 1 (.slice (some ⟨g,0,none⟩) n cap) n (nums .u8 zs))(hn:zs.length=n)(hi:i<n) :
  (w.setCells g (0+i) (behind zs i)).ownsRow base 5 1 (.slice (some ⟨g,0,none⟩) (i+(n-(i+1))) cap) (dropAt zs i).length (nums .u8 (dropAt zs i))/\w.grownBy (w.setCells g (0+i) (behind zs i)) (some g):=by
 obtain⟨h1,h2⟩:=own_setCells (behind zs i) (0+i) w (nums .u8 zs) h
 refine⟨?_,h2⟩
 have h3:=own_fewer h1 (show i+(n-(i+1))<=n by omega)
 have hnl:(nums .u8 zs).length=n:=by rw [nums_length,hn]
 rw [setMany_eq _ _ _ (by rw [behind_len,hnl];omega),behind_len,hn] at h3
 have e:((nums .u8 zs).take (0+i)++behind zs i++(nums .u8 zs).drop (0+i+(n-(i+1)))).take (i+(n-(i+1)))=nums .u8 (dropAt zs i):=by
  have hl:((nums .u8 zs).take (0+i)++behind zs i).length=i+(n-(i+1)):=by rw [List.length_append,behind_len,List.length_take,hnl,hn];omega
  rw [List.take_append_of_le_length (by omega),List.take_of_length_le (by omega)]
  simp [nums,behind,dropAt,List.map_take]
 rw [e] at h3
 rw [dropAt_len zs i (by omega),hn]
 exact h3
theorem behind_get {w:World}{base g n cap i:Nat}{zs:List Int}(h:w.ownsRow base 5 1 (.slice (some ⟨g,0,none⟩) n cap) n (nums .u8 zs))(hn:zs.length=n)(hi:i<n) :
  ∃ A:Addr,(if cap=i+1 then some (⟨g,0,none⟩:Addr) else some ⟨g,i+1,none⟩)=some A/\∀ j u,(behind zs i)[j]? = some u->w.cell? (A.add j)=some u:=by
 have hcap:n<=cap:=by
  rcases h.2 with⟨h',_⟩ | ⟨g',cap',cur,h',hb,hh,hnc,_⟩
  ·cases h'
  ·simp only [Value.slice.injEq,Option.some.injEq,Addr.mk.injEq,and_true,true_and] at h'
   omega
 by_cases hc:cap=i+1
 ·refine⟨⟨g,0,none⟩,by simp [hc],fun j u hu=>?_⟩
  have h0:(behind zs i).length=0:=by rw [behind_len];omega
  rw [List.length_eq_zero_iff.1 h0] at hu
  simp at hu
 ·refine⟨⟨g,i+1,none⟩,by simp [hc],fun j u hu=>?_⟩
  have hj:j<n-(i+1):=by
   have:=(List.getElem?_eq_some_iff.1 hu).1
   rwa [behind_len,hn] at this
  have:=h.cells (g:=g) rfl (i+1+j) u (by rw [<- hu];simp [behind,nums,List.getElem?_drop])
  rw [Addr.add_lit] at this ⊢
  simpa using this
theorem own_cap {w:World}{base g n cap m:Nat}{e:TypeId}{xs:List Value}(h:w.ownsRow base e 1 (.slice (some ⟨g,0,none⟩) n cap) m xs):n<=cap/\cap<=9223372036854775807/\base<=g:=by
 rcases h.2 with⟨h',_⟩ | ⟨g',cap',cur,h',hb,hh,hnc,hcm,_⟩
 ·cases h'
 ·simp only [Value.slice.injEq,Option.some.injEq,Addr.mk.injEq,and_true,true_and] at h'
  obtain⟨rfl,rfl,rfl⟩:=h'
  exact⟨hnc,by simpa [maxLen] using hcm,hb⟩
theorem own_drew {w:World}{base n:Nat}{e:TypeId}{v:Value}{xs:List Value}(h:w.ownsRow base e 1 v n xs):w.drew.ownsRow base e 1 v n xs:=own_move h fun _ _=>rfl
theorem grown_drew {w y:World}{o:Option Nat}(h:w.drew.grownBy y o):w.grownBy y o:=⟨h.os,h.tape,h.output,h.size,h.block⟩
def sliceLen:Value->Int
 | .slice _ n _=>n
 | _=>0
structure GrowR (w w':World)(v v':Value):Prop where
 by_:w.grownBy w' v.ownBlock
 at_:v'.ownBlock=v.ownBlock\/∃ b,v'.ownBlock=some b/\w.heap.size<=b
theorem GrowR.refl (w:World)(v:Value):GrowR w w v v:=⟨World.grownBy.refl w _,.inl rfl⟩
theorem GrowR.trans {w x y:World}{v v' v2:Value}(h:GrowR w x v v')(k:GrowR x y v' v2):GrowR w y v v2:=by
 have hs:=h.by_.size
 refine⟨⟨k.by_.os.trans h.by_.os,k.by_.tape.trans h.by_.tape,k.by_.output.trans h.by_.output,Nat.le_trans hs k.by_.size,fun i hi h1=>?_⟩,?_⟩
 ·refine (k.by_.block i (by omega) ?_).trans (h.by_.block i hi h1)
  rcases h.at_ with e | ⟨b,e,hb⟩
  ·rw [e];exact h1
  ·rw [e];intro hc;injection hc with hc;omega
 ·rcases k.at_ with e | ⟨b,e,hb⟩
  ·rw [e];exact h.at_
  ·exact .inr ⟨b,e,by omega⟩
theorem GrowR.below {w x y:World}{v v':Value}(h:GrowR w x v v')(hb:Below x.heap.size x y):GrowR w y v v' :=
 ⟨⟨hb.os.trans h.by_.os,hb.tape.trans h.by_.tape,hb.output.trans h.by_.output,Nat.le_trans h.by_.size hb.size,fun i hi h1=>(hb.block i (Nat.lt_of_lt_of_le hi h.by_.size)).trans (h.by_.block i hi h1)⟩,h.at_⟩
def BOwn (w:World)(base:Nat)(v:Value)(xs:List Bool):Prop:=w.ownsRow base 4 1 v xs.length (bools xs)
theorem natBits_last (n k i:Nat)(hi:i<k):natBits (n/2 ^ (k-(i+1))) (i+1)=natBits (n/2 ^ (k-i)) i++[n.testBit (k-1-i)]:=by
 rw [natBits_succ,Nat.div_div_eq_div_mul,show 2 ^ (k-(i+1))*2=2 ^ (k-i) by rw [<- Nat.pow_succ];congr 1;omega]
 congr 2
 rw [Nat.testBit_div_two_pow,show 0+(k-(i+1))=k-1-i by omega]
theorem bit_div (n b:Nat)(hn:n<2147483648):(Go.bits .and .i64 ((n:Int)/2 ^ b) 1==1)=n.testBit b:=by
 have e1:(n:Int)/2 ^ b=((n/2 ^ b:Nat):Int):=by rw [Int.natCast_ediv,Int.natCast_pow];rfl
 have hle:n/2 ^ b<=n:=Nat.div_le_self _ _
 have e2:=i64_and_nat (n/2 ^ b) 1 (by omega) (by omega)
 rw [e1,show (1:Int)=((1:Nat):Int) from rfl,e2,Nat.and_one_is_mod,Nat.testBit_eq_decide_div_mod_eq]
 by_cases h:n/2 ^ b%2=1
 ·rw [h];rfl
 ·rw [show n/2 ^ b%2=0 by omega];rfl
theorem info4b:(Tryz.prog.info? 4).map (fun i=>(i.zero,i.size,i.bytes))=some (some (.bool false),1,1):=by kernel_rfl
theorem bools_len (xs:List Bool):(bools xs).length=xs.length:=by simp [bools]
set_option maxHeartbeats 1000000 in
set_option maxRecDepth 8000 in
theorem qrAdd (w0 w:World)(base n k:Nat)(v:Value)(xs:List Bool)(hO:BOwn w base v xs)(hB:Below base w0 w)(hbase:base<=w.heap.size)(hn:n<2147483648)(hk:k<=60)(hxl:xs.length<=10000000) :
  Calls Tryz.prog 66 #[v,.int .i64 (n:Int),.int .i64 (k:Int)] w fun e w'=>∃ v',e=.returned v'/\BOwn w' base v' (xs++natBits n k)/\Below base w0 w'/\GrowR w w' v v':=by
 have HO:=Aside0.mk (show BOwn w base v (xs++natBits (n/2 ^ (k-0)) 0) by simpa [natBits] using hO)
 have HB:=Aside0.mk hB
 have HBS:=Aside0.mk hbase
 have HG:=Aside0.mk (GrowR.refl w v)
 have HXL:=Aside0.mk hxl
 clear hO hB hbase hxl
 go_enter Tryz.func66,Tryz.ntmps66
 go_wp2
 go_loopw [0,7] (fun vr vi wr=>∃ i:Nat,i<=k/\vi=.int .i64 ((k:Int)-1-(i:Int))/\Aside0 (BOwn wr base vr (xs++natBits (n/2 ^ (k-i)) i))/\Aside0 (Below base w0 wr)/\Aside0 (base<=wr.heap.size)/\Aside0 (GrowR w wr v vr)) (fun _ vi _=>(intOf vi+1).toNat)
 case atStart=>exact⟨0,Nat.zero_le _,by go_num,HO,HB,HBS,HG⟩
 case round=>
  clear HO HB HBS HG
  obtain⟨i,hi,rfl,HO,HB,HBS,HG⟩:=hrel
  by_cases hik:i<k
  ·obtain⟨b,hb⟩:∃ b:Nat,k-1-i=b:=⟨_,rfl⟩
   have hbi:(k:Int)-1-(i:Int)=(b:Int):=by omega
   have hb60:b<60:=by omega
   have HL:=Aside0.mk (natBits_last n k i hik)
   rw [hb] at HL
   rw [hbi]
   have HBI:=Aside0.mk hbi
   clear hb hbi
   have hbit:=bit_div n b hn
   obtain⟨t,ht⟩:∃ t,n.testBit b=t:=⟨_,rfl⟩
   rw [ht] at hbit HL
   clear ht
   go_wp2_with (first | ((with_reducible refine gate_builtin (b:=.append) (xs:=#[.tmp 14,.tmp 20]) rfl ?_);at_builtin;refine print_append (w0:=w0) base rfl (.tmp 14) (.tmp 20) 45 4 (.bool false) 1 rfl Tryz.underlying45 info4b rfl (by decide) _ (bools (xs++natBits (n/2 ^ (k-i)) i)) (.bool t) rfl rfl rfl ?bO HB.out HBS.out ?bL ?_;(case bO=>(rw [bools_len];exact HO.out));(case bL=>(rw [bools_len,List.length_append,natBits_len];have:=HXL.out;omega));intro v1 w1 ho hb hg hat;have nO:=Aside0.mk ho;have nB:=Aside0.mk hb;have nS:=Aside0.mk (Nat.le_trans HBS.out hg.size);have nG:=Aside0.mk (HG.out.trans ⟨hg,hat⟩);clear ho hb hg hat))
   clear hbit
   go_roundw
   case rel=>exact⟨i+1,by omega,by have:=HBI.out;go_num,⟨by rw [HL.out,<- List.append_assoc];have:=nO.out;unfold BOwn;rw [show bools (xs++natBits (n/2 ^ (k-i)) i++[t])=bools (xs++natBits (n/2 ^ (k-i)) i)++[Value.bool t] by simp [bools]];rw [show (xs++natBits (n/2 ^ (k-i)) i++[t]).length=(bools (xs++natBits (n/2 ^ (k-i)) i)++[Value.bool t]).length by simp [bools]];exact this⟩,nB,nS,nG⟩
   case measure=>simp [intOf]<;>omega
  ·have:k=i:=by omega
   subst this
   go_wp2
   go_ret
   exact⟨_,rfl,by have:=HO.out;rwa [Nat.sub_self,Nat.pow_zero,Nat.div_one] at this,HB.out,HG.out⟩
def alSp:List Int:=[32,36,37,42,43,45,46,47,58]
theorem alNum_dig (x:Int)(h:48<=x/\x<=57):(alNum x:Int)=x-48:=by
 obtain⟨n,rfl⟩:∃ n:Nat,x=(n:Int):=⟨x.toNat,by omega⟩
 have hl:∀ k:Fin 10,(alNum ((48+k.val:Nat):Int):Int)=((48+k.val:Nat):Int)-48:=by decide
 have:=hl ⟨n-48,by omega⟩
 simp only [show 48+(n-48)=n by omega] at this
 exact this
theorem alNum_let (x:Int)(h:65<=x/\x<=90):(alNum x:Int)=x-65+10:=by
 obtain⟨n,rfl⟩:∃ n:Nat,x=(n:Int):=⟨x.toNat,by omega⟩
 have hl:∀ k:Fin 26,(alNum ((65+k.val:Nat):Int):Int)=((65+k.val:Nat):Int)-65+10:=by decide
 have:=hl ⟨n-65,by omega⟩
 simp only [show 65+(n-65)=n by omega] at this
 exact this
theorem alNum_mem (x:Int)(h:alNum x<45):∃ y:Nat,y∈alTab/\(y:Int)=x:=by
 have:=alCh_num x h
 refine⟨alTab.getD (alNum x) 0,?_,this⟩
 rw [List.getD_eq_getElem?_getD,List.getElem?_eq_getElem (show alNum x<alTab.length from h)]
 exact List.getElem_mem _
theorem alNum_cases (x:Int)(h:alNum x<45):(48<=x/\x<=57)\/(65<=x/\x<=90)\/x=32\/x=36\/x=37\/x=42\/x=43\/x=45\/x=46\/x=47\/x=58:=by
 obtain⟨y,hy,rfl⟩:=alNum_mem x h
 simp only [alTab,List.mem_cons,List.not_mem_nil,or_false] at hy
 omega
theorem alpha100 (w:World)(x:Int)(h:alNum x<45):Calls Tryz.prog 100 #[.int .u8 x] w fun e w'=>e=.returned (.int .i64 (alNum x:Int))/\w=w':=by
 rcases alNum_cases x h with h1 | h1 | h1
 ·have K:=Aside0.mk (alNum_dig x h1)
  obtain⟨h1,h2⟩:=h1
  clear h
  go_enter Tryz.func100,Tryz.ntmps100
  go_wp2
  go_ret
  exact⟨by rw [K.out];rfl,rfl⟩
 ·have K:=Aside0.mk (alNum_let x h1)
  obtain⟨h1,h2⟩:=h1
  clear h
  go_enter Tryz.func100,Tryz.ntmps100
  go_wp2
  go_ret
  exact⟨by rw [K.out];rfl,rfl⟩
 ·have i0:∀ W,(Instr.index 215 (.agg #[.int .u8 32,.int .u8 36,.int .u8 37,.int .u8 42,.int .u8 43,.int .u8 45,.int .u8 46,.int .u8 47,.int .u8 58]) (.int .i64 0)).run Tryz.prog W=.ok (.int .u8 32) W:=fun _=>by kernel_rfl
  have i1:∀ W,(Instr.index 215 (.agg #[.int .u8 32,.int .u8 36,.int .u8 37,.int .u8 42,.int .u8 43,.int .u8 45,.int .u8 46,.int .u8 47,.int .u8 58]) (.int .i64 1)).run Tryz.prog W=.ok (.int .u8 36) W:=fun _=>by kernel_rfl
  have i2:∀ W,(Instr.index 215 (.agg #[.int .u8 32,.int .u8 36,.int .u8 37,.int .u8 42,.int .u8 43,.int .u8 45,.int .u8 46,.int .u8 47,.int .u8 58]) (.int .i64 2)).run Tryz.prog W=.ok (.int .u8 37) W:=fun _=>by kernel_rfl
  have i3:∀ W,(Instr.index 215 (.agg #[.int .u8 32,.int .u8 36,.int .u8 37,.int .u8 42,.int .u8 43,.int .u8 45,.int .u8 46,.int .u8 47,.int .u8 58]) (.int .i64 3)).run Tryz.prog W=.ok (.int .u8 42) W:=fun _=>by kernel_rfl
  have i4:∀ W,(Instr.index 215 (.agg #[.int .u8 32,.int .u8 36,.int .u8 37,.int .u8 42,.int .u8 43,.int .u8 45,.int .u8 46,.int .u8 47,.int .u8 58]) (.int .i64 4)).run Tryz.prog W=.ok (.int .u8 43) W:=fun _=>by kernel_rfl
  have i5:∀ W,(Instr.index 215 (.agg #[.int .u8 32,.int .u8 36,.int .u8 37,.int .u8 42,.int .u8 43,.int .u8 45,.int .u8 46,.int .u8 47,.int .u8 58]) (.int .i64 5)).run Tryz.prog W=.ok (.int .u8 45) W:=fun _=>by kernel_rfl
  have i6:∀ W,(Instr.index 215 (.agg #[.int .u8 32,.int .u8 36,.int .u8 37,.int .u8 42,.int .u8 43,.int .u8 45,.int .u8 46,.int .u8 47,.int .u8 58]) (.int .i64 6)).run Tryz.prog W=.ok (.int .u8 46) W:=fun _=>by kernel_rfl
  have i7:∀ W,(Instr.index 215 (.agg #[.int .u8 32,.int .u8 36,.int .u8 37,.int .u8 42,.int .u8 43,.int .u8 45,.int .u8 46,.int .u8 47,.int .u8 58]) (.int .i64 7)).run Tryz.prog W=.ok (.int .u8 47) W:=fun _=>by kernel_rfl
  have i8:∀ W,(Instr.index 215 (.agg #[.int .u8 32,.int .u8 36,.int .u8 37,.int .u8 42,.int .u8 43,.int .u8 45,.int .u8 46,.int .u8 47,.int .u8 58]) (.int .i64 8)).run Tryz.prog W=.ok (.int .u8 58) W:=fun _=>by kernel_rfl
  have HI:=Aside0.mk (show ∃ j:Nat,j<9/\alSp.getD j 0=x/\alNum x=36+j by
   rcases h1 with rfl | rfl | rfl | rfl | rfl | rfl | rfl | rfl | rfl
   ·exact⟨0,by decide,rfl,rfl⟩
   ·exact⟨1,by decide,rfl,rfl⟩
   ·exact⟨2,by decide,rfl,rfl⟩
   ·exact⟨3,by decide,rfl,rfl⟩
   ·exact⟨4,by decide,rfl,rfl⟩
   ·exact⟨5,by decide,rfl,rfl⟩
   ·exact⟨6,by decide,rfl,rfl⟩
   ·exact⟨7,by decide,rfl,rfl⟩
   ·exact⟨8,by decide,rfl,rfl⟩)
  obtain⟨N,hN⟩:∃ N,alNum x=N:=⟨_,rfl⟩
  rw [hN] at HI ⊢
  have t1:(decide (x≥48) && decide (x<=57))=false:=by rcases h1 with rfl | rfl | rfl | rfl | rfl | rfl | rfl | rfl | rfl<;>rfl
  have t2:(decide (x≥65) && decide (x<=90))=false:=by rcases h1 with rfl | rfl | rfl | rfl | rfl | rfl | rfl | rfl | rfl<;>rfl
  clear h hN
  have hx:(32<=x/\x<=47)\/(58<=x/\x<=58):=by omega
  clear h1 t1 t2
  rcases hx with⟨hx1,hx2⟩ | ⟨hx1,hx2⟩
  all_goals
   go_enter Tryz.func100,Tryz.ntmps100
   go_wp2
   go_loop [27] (fun v=>∃ i:Nat,v=.int .i64 (i:Int)/\Aside0 (∃ j:Nat,i<=j/\j<9/\alSp.getD j 0=x/\N=36+j)) (fun v=>(9-intOf v).toNat)
   case atStart=>exact⟨0,rfl,by obtain⟨j,h1,h2,h3⟩:=HI.out;exact⟨⟨j,Nat.zero_le _,h1,h2,h3⟩⟩⟩
   case round=>
    clear HI
    obtain⟨i,rfl,HI⟩:=hrel
    have hi9:i<9:=by obtain⟨j,h1,h2,_⟩:=HI.out;omega
    have hcs:i=0\/i=1\/i=2\/i=3\/i=4\/i=5\/i=6\/i=7\/i=8:=by omega
    obtain⟨y,hy⟩:∃ y,alSp.getD i 0=y:=⟨_,rfl⟩
    have idx:∀ W,(Instr.index 215 (.agg #[.int .u8 32,.int .u8 36,.int .u8 37,.int .u8 42,.int .u8 43,.int .u8 45,.int .u8 46,.int .u8 47,.int .u8 58]) (.int .i64 (i:Int))).run Tryz.prog W=.ok (.int .u8 y) W:=by
     intro W
     rw [<- hy]
     rcases hcs with rfl | rfl | rfl | rfl | rfl | rfl | rfl | rfl | rfl
     ·exact i0 W
     ·exact i1 W
     ·exact i2 W
     ·exact i3 W
     ·exact i4 W
     ·exact i5 W
     ·exact i6 W
     ·exact i7 W
     ·exact i8 W
    have HY:=Aside0.mk hy
    clear hcs hy
    by_cases hxy:x=y
    ·have HN:=Aside0.mk (show N=36+i by
      obtain⟨j,h1,h2,h3,h4⟩:=HI.out
      have hinj:∀ a:Fin 9,∀ b:Fin 9,alSp.getD a.val 0=alSp.getD b.val 0->a=b:=by decide
      have:=hinj ⟨i,hi9⟩ ⟨j,h2⟩ (by rw [HY.out,<- hxy];exact h3.symm)
      have:i=j:=congrArg Fin.val this
      omega)
     have hb:(x==y)=true:=beq_iff_eq.2 hxy
     clear hxy
     go_wp2
     go_ret
     exact⟨by rw [HN.out];go_num,rfl⟩
    ·have hb:(x==y)=false:=beq_eq_false_iff_ne.2 hxy
     have HI2:=Aside0.mk (show ∃ j:Nat,i+1<=j/\j<9/\alSp.getD j 0=x/\N=36+j by
      obtain⟨j,h1,h2,h3,h4⟩:=HI.out
      refine⟨j,?_,h2,h3,h4⟩
      rcases Nat.lt_or_ge i j with h5 | h5
      ·exact h5
      ·exfalso
       have:i=j:=by omega
       subst this
       exact hxy (by rw [<- h3];exact HY.out))
     clear hxy
     go_wp2
     go_round
     case rel=>exact⟨i+1,by go_num,HI2⟩
     case measure=>simp [intOf]<;>omega
theorem cnt58 (w:World)(m v:Nat)(x:Int)(hm:m=1\/m=2\/m=4)(hx:x=(m:Int))(hv:1<=v/\v<=40) :
  Calls Tryz.prog 58 #[.int .i64 x,.int .i64 (v:Int)] w fun e w'=>e=.returned (.tuple #[.int .i64 (cntBits m v:Int),.bool true])/\Below w.heap.size w w':=by
 have hcs:(v<=9)\/(10<=v/\v<=26)\/(27<=v):=by omega
 subst hx
 have HC:=Aside0.mk (show (cntBits m v:Int)=rd (rowBits m) (verOff v:Nat) from (row_cnt m v hm).symm)
 obtain⟨C,hC⟩:∃ C,cntBits m v=C:=⟨_,rfl⟩
 rw [hC] at HC ⊢
 have HB:=Aside0.mk (below_alloc (Below.refl w.heap.size w) (.cells #[.int .i64 0,.int .i64 0,.int .i64 0] 3))
 clear hC
 rcases hm with rfl | rfl | rfl
 all_goals
  rcases hcs with h1 | ⟨h1,h2⟩ | h1
  all_goals
   go_enter Tryz.func58,Tryz.ntmps58
   go_wp2
   go_ret2
   refine⟨?_,below_alloc (Below.refl _ _) _⟩
   rw [HC.out]
   first
    | (rw [show verOff v=0 by unfold verOff;rw [if_pos (by omega)]];rfl)
    | (rw [show verOff v=1 by unfold verOff;rw [if_neg (by omega),if_pos (by omega)]];rfl)
    | (rw [show verOff v=2 by unfold verOff;rw [if_neg (by omega),if_neg (by omega)]];rfl)
set_option maxHeartbeats 2000000 in
set_option maxRecDepth 8000 in
theorem fits122 (w:World)(m:Int)(A:Option Addr)(c:Nat)(t:List Int)(n:Nat)(hn:t.length=n)(hm:m=1\/m=2\/m=4)(hC:Kd.C (Kd.int .u8) w A n t)(h1:m=1->∀ x∈t,isDig x)(h2:m=2->∀ x∈t,alNum x<45)(hnl:n<=1000000) :
  Calls Tryz.prog 122 #[.agg #[.int .i64 m,.slice A n c]] w fun e w'=>e=.returned (.bool true)/\Below w.heap.size w w':=by
 obtain⟨w0,hw0⟩:∃ w0,w0=w.alloc (.cells #[.int .i64 m,.slice A n c] 98):=⟨_,rfl⟩
 have HW:=Aside0.mk hw0
 have hB:Below w.heap.size w w0:=by rw [hw0];exact below_alloc (Below.refl _ _) _
 have HB:=Aside0.mk hB
 have HBk:=Aside0.mk (show Blk w0 w.heap.size 98 #[.int .i64 m,.slice A n c] by rw [hw0];exact Blk.new _ _ _)
 have HR:=Aside0.mk (show ReadsInt w0 .u8 A n t from Kd.reads_of_C (Kd.C_below hC hB))
 have H1:=Aside0.mk h1
 have H2:=Aside0.mk h2
 have HN:=Aside0.mk hn
 clear hw0 hC h1 h2 hn hB
 rcases hm with rfl | rfl | rfl
 ·have c0:w0.cell? ⟨w.heap.size,0,none⟩=_:=HBk.out.cell 0
  have c1:w0.cell? ⟨w.heap.size,1,none⟩=_:=HBk.out.cell 1
  go_enter Tryz.func122,Tryz.ntmps122
  go_wp2_with fail
  rw [<- HW.out]
  go_loop [8] (fun v=>∃ i:Nat,v=.int .i64 (i:Int)/\i<=n) (fun v=>(n-intOf v).toNat)
  case atStart=>exact⟨0,rfl,Nat.zero_le _⟩
  case round=>
   obtain⟨i,rfl,hi⟩:=hrel
   by_cases hin:i<n
   ·obtain⟨ad,e0,hcell⟩:=HR.out.2.2 (by omega)
    subst e0
    have r0:=hcell i hin
    obtain⟨x,hx⟩:∃ x,t.getD i 0=x:=⟨_,rfl⟩
    have hmem:x∈t:=by
     rw [<- hx,List.getD_eq_getElem?_getD,List.getElem?_eq_getElem (by rw [HN.out];exact hin)]
     exact List.getElem_mem _
    rw [hx] at r0
    have HX1:=Aside0.mk hmem
    clear hx hmem hcell
    have hd:=H1.out (by first | exact True.intro | exact rfl) x HX1.out
    have hb1:decide (x<48)=false:=decide_eq_false (by have:=hd.1;omega)
    have hb2:decide (57<x)=false:=decide_eq_false (by have:=hd.2;omega)
    clear hd
    go_wp2
    go_round
    case rel=>exact⟨i+1,by go_num,by omega⟩
    case measure=>simp [intOf]<;>omega
   ·have:n=i:=by omega
    subst this
    go_wp2
    go_ret
    exact⟨rfl,HB.out⟩
 ·have c0:w0.cell? ⟨w.heap.size,0,none⟩=_:=HBk.out.cell 0
  have c1:w0.cell? ⟨w.heap.size,1,none⟩=_:=HBk.out.cell 1
  go_enter Tryz.func122,Tryz.ntmps122
  go_wp2_with fail
  rw [<- HW.out]
  go_loop [8] (fun v=>∃ i:Nat,v=.int .i64 (i:Int)/\i<=n) (fun v=>(n-intOf v).toNat)
  case atStart=>exact⟨0,rfl,Nat.zero_le _⟩
  case round=>
   obtain⟨i,rfl,hi⟩:=hrel
   by_cases hin:i<n
   ·obtain⟨ad,e0,hcell⟩:=HR.out.2.2 (by omega)
    subst e0
    have r0:=hcell i hin
    obtain⟨x,hx⟩:∃ x,t.getD i 0=x:=⟨_,rfl⟩
    have hmem:x∈t:=by
     rw [<- hx,List.getD_eq_getElem?_getD,List.getElem?_eq_getElem (by rw [HN.out];exact hin)]
     exact List.getElem_mem _
    rw [hx] at r0
    have HX1:=Aside0.mk hmem
    clear hx hmem hcell
    have hd:=H2.out (by first | exact True.intro | exact rfl) x HX1.out
    have ka:=alpha100 w0 x hd
    obtain⟨N,hN⟩:∃ N,alNum x=N:=⟨_,rfl⟩
    rw [hN] at ka
    have hb4:decide ((N:Int)<0)=false:=decide_eq_false (by omega)
    clear hd hN
    go_wp2_with (go_at_call 100;refine ka.mono ?_;rintro e w' ⟨rfl,rfl⟩)
    go_round
    case rel=>exact⟨i+1,by go_num,by omega⟩
    case measure=>simp [intOf]<;>omega
   ·have:n=i:=by omega
    subst this
    go_wp2
    go_ret
    exact⟨rfl,HB.out⟩
 ·have c0:w0.cell? ⟨w.heap.size,0,none⟩=_:=HBk.out.cell 0
  have c1:w0.cell? ⟨w.heap.size,1,none⟩=_:=HBk.out.cell 1
  go_enter Tryz.func122,Tryz.ntmps122
  go_wp2_with fail
  rw [<- HW.out]
  go_loop [8] (fun v=>∃ i:Nat,v=.int .i64 (i:Int)/\i<=n) (fun v=>(n-intOf v).toNat)
  case atStart=>exact⟨0,rfl,Nat.zero_le _⟩
  case round=>
   obtain⟨i,rfl,hi⟩:=hrel
   by_cases hin:i<n
   ·obtain⟨ad,e0,hcell⟩:=HR.out.2.2 (by omega)
    subst e0
    have r0:=hcell i hin
    obtain⟨x,hx⟩:∃ x,t.getD i 0=x:=⟨_,rfl⟩
    have hmem:x∈t:=by
     rw [<- hx,List.getD_eq_getElem?_getD,List.getElem?_eq_getElem (by rw [HN.out];exact hin)]
     exact List.getElem_mem _
    rw [hx] at r0
    have HX1:=Aside0.mk hmem
    clear hx hmem hcell
    go_wp2
    go_round
    case rel=>exact⟨i+1,by go_num,by omega⟩
    case measure=>simp [intOf]<;>omega
   ·have:n=i:=by omega
    subst this
    go_wp2
    go_ret
    exact⟨rfl,HB.out⟩
theorem drop_int (A:Option Addr)(n m c k:Nat)(t l:List Int)(hn:t.length=n)(hm:l.length=m)(hk:t.drop k=l)(hkn:k<=n)(hc:n<=c):∃ (A':Option Addr) (c':Nat),(∀ W:World,(Instr.slice 26 (.slice A n c) (some (.int .i64 (k:Int))) none none).run Tryz.prog W=.ok (.slice A' m c') W)/\
  (∀ w:World,ReadsInt w .u8 A n t->ReadsInt w .u8 A' m l)/\m<=c':=by
 obtain⟨i0,hi0,hz0,hz1,hz2⟩:=info_parts F.info5
 subst hn
 obtain⟨A',h1,h2,h3⟩:=print_drop_of (P:=Tryz.prog) (Value.int .u8) (0:Int) 26 5 .i64 Tryz.underlying26 hi0 hz1 A c t (k:Int) (by omega) (by omega) hc
 rw [Int.toNat_natCast,hk,hm] at h1 h2 h3
 exact⟨A',c-k,h1,h2,h3⟩
structure DMem (w0 w wr:World)(v v0:Value)(xs:List Bool)(p:Nat)(cs:Array Value):Prop where
 own:BOwn wr w0.heap.size v0 xs
 bel:Below w0.heap.size w0 wr
 sz:w0.heap.size<=wr.heap.size
 gr:GrowR w wr v v0
 box:Blk wr p 98 cs
theorem DMem.drew {w0 w wr:World}{v v0:Value}{xs:List Bool}{p:Nat}{cs:Array Value}(h:DMem w0 w wr v v0 xs p cs):DMem w0 w wr.drew v v0 xs p cs :=
 ⟨own_move h.own fun _ _=>rfl,⟨h.bel.os,h.bel.tape,h.bel.output,h.bel.size,h.bel.block⟩,h.sz,h.gr.below ⟨rfl,rfl,rfl,Nat.le_refl _,fun _ _=>rfl⟩,h.box⟩
theorem addP {w0 w wr:World}{v v0:Value}{xs:List Bool}{p n k:Nat}{cs:Array Value}{a b:Int}(h:DMem w0 w wr v v0 xs p cs)(ha:a=(n:Int))(hb:b=(k:Int))(hn:n<2147483648)(hk:k<=60)(hxl:xs.length<=10000000) :
  Calls Tryz.prog 66 #[v0,.int .i64 a,.int .i64 b] wr fun e w'=>∃ v',e=.returned v'/\DMem w0 w w' v v' (xs++natBits n k) p cs:=by
 subst ha hb
 refine (qrAdd w0 wr w0.heap.size n k v0 xs h.own h.bel h.sz hn hk hxl).mono ?_
 rintro e w' ⟨v',rfl,h1,h2,h3⟩
 refine⟨v',rfl,h1,h2,Nat.le_trans h.sz h3.by_.size,h.gr.trans h3,?_⟩
 exact (h3.by_.block p h.box.lt (own_ne h.own h.box (by decide))).trans h.box
theorem getD_cons0 (x:Int)(l:List Int):(x :: l).getD 0 0=x:=rfl
set_option maxHeartbeats 1000000 in
set_option maxRecDepth 8000 in
theorem dataByte (w0 w:World)(v:Value)(xs:List Bool)(A:Option Addr)(c n:Nat)(t:List Int)(hn:t.length=n)(hc:n<=c)(hT:Kd.C (Kd.int .u8) w0 A n t)(hB:Below w0.heap.size w0 w)(hO:BOwn w w0.heap.size v xs)(hz:w0.heap.size<=w.heap.size)(hby:∀ x∈t,0<=x/\x<=255)(hl:xs.length+8*n<=9000000) :
  Calls Tryz.prog 123 #[v,.agg #[.int .i64 4,.slice A n c]] w fun e w'=>∃ v',e=.returned v'/\BOwn w' w0.heap.size v' (xs++byData t)/\Below w0.heap.size w0 w'/\GrowR w w' v v':=by
 obtain⟨w1,hw1⟩:∃ w1,w1=w.alloc (.cells #[.int .i64 4,.slice A n c] 98):=⟨_,rfl⟩
 have HW:=Aside0.mk hw1
 have HM:=Aside0.mk (show DMem w0 w w1 v v xs w.heap.size #[.int .i64 4,.slice A n c] by
  rw [hw1]
  exact⟨own_move hO fun k hk=>by obtain⟨cs,hb⟩:=own_blk hO k hk;exact Below.heap_alloc w _ k hb.lt,hB.alloc hz _,by simp;omega,(GrowR.refl w v).below (below_alloc (Below.refl _ _) _),Blk.new _ _ _⟩)
 have HT:=Aside0.mk (show ∀ W,Below w0.heap.size w0 W->ReadsInt W .u8 A n t from fun W hb=>Kd.reads_of_C (Kd.C_below hT hb))
 have HN:=Aside0.mk hn
 have HBY:=Aside0.mk hby
 have HL:=Aside0.mk hl
 have c0:=HM.out.box.cell 0
 have c1:=HM.out.box.cell 1
 have HL0:=Aside0.mk (show t.length=n from hn)
 clear hw1 hT hB hO hn hby hl
 go_enter Tryz.func123,Tryz.ntmps123
 go_wp2_with fail
 rw [<- HW.out]
 go_wp2_with fail
 clear c0 c1
 go_loopw [0,5] (fun v0 v5 wr=>∃ (A':Option Addr) (n' c':Nat) (t':List Int) (ys:List Bool),v5=.slice A' n' c'/\n'<=n/\n'<=c'/\Aside0 (t'.length=n')/\Aside0 (∀ W,Below w0.heap.size w0 W->ReadsInt W .u8 A' n' t')/\Aside0 (DMem w0 w wr v v0 ys w.heap.size #[.int .i64 4,.slice A n c])/\Aside0 (ys++byData t'=xs++byData t)/\Aside0 (∀ x∈t',0<=x/\x<=255)/\Aside0 (ys.length<=9000000)) (fun _ v5 _=>(sliceLen v5).toNat)
 case atStart=>exact⟨A,n,c,t,xs,rfl,Nat.le_refl _,hc,HN,HT,HM,⟨rfl⟩,HBY,⟨by have:=HL.out;omega⟩⟩
 case round=>
  clear HT HM HN HBY hc
  obtain⟨A',n',c',t',ys,rfl,hnn,hcc,HN,HT,HM,HE,HBY,HYL⟩:=hrel
  have c0:=HM.out.box.cell 0
  by_cases h0:n'=0
  ·subst h0
   have HE2:=Aside0.mk (show ys=xs++byData t by rw [<- HE.out,List.eq_nil_of_length_eq_zero HN.out];simp [byData])
   go_wp2
   go_ret
   exact⟨_,rfl,by rw [<- HE2.out];exact HM.out.own,HM.out.bel,HM.out.gr⟩
  ·obtain⟨x,l,hxl⟩:∃ x l,t'=x :: l:=by
    cases t' with
    | nil=>exact absurd HN.out.symm h0
    | cons x l=>exact⟨x,l,rfl⟩
   subst hxl
   obtain⟨m,hm⟩:∃ m,l.length=m:=⟨_,rfl⟩
   have hmn:n'=m+1:=by have:=HN.out;simp at this;omega
   obtain⟨A2,c2,hsl,hrd,hc2⟩:=drop_int A' n' m c' 1 (x :: l) l HN.out hm rfl (by omega) hcc
   have hr:=HT.out _ HM.out.bel
   obtain⟨ad,e0,hcell⟩:=hr.2.2 (by omega)
   have r0:=hcell 0 (by omega)
   rw [getD_cons0] at r0
   have r00:wr.cell? ad=some (.int .u8 x):=by rw [<- r0];unfold Addr.add;simp
   obtain⟨b,hb⟩:∃ b:Nat,x=(b:Int):=⟨x.toNat,by have:=(HBY.out x (by simp)).1;omega⟩
   have hb255:b<=255:=by have:=(HBY.out x (by simp)).2;omega
   subst hb e0
   rw [show (((1:Nat):Int))=1 from rfl] at hsl
   have HRD:=Aside0.mk hrd
   have HLM:=Aside0.mk hm
   have HE2:=Aside0.mk (show (ys++natBits b 8)++byData l=xs++byData t by rw [<- HE.out];simp [byData])
   have HBY2:=Aside0.mk (show ∀ x∈l,0<=x/\x<=255 from fun x hx=>HBY.out x (by simp [hx]))
   have hmn1:m<n':=by omega
   clear hrd hm hr hcell h0 hmn
   go_wp2_with fail
   have HMd:=Aside0.mk HM.out.drew
   have hwb:IntKind.i64.wrap (b:Int)=(b:Int):=by rw [IntKind.wrap_i64];omega
   have kad:=addP (n:=b) (k:=8) (a:=(b:Int)) (b:=8) HMd.out rfl rfl (by omega) (by decide) (by have:=HYL.out;omega)
   go_region_with (go_at_call 66;with_reducible (refine kad.mono ?_);rintro e w2 ⟨v2,rfl,hM2⟩;have HM2:=Aside0.mk hM2;clear hM2)
   all_goals
    clear hwb hsl r0 r00
    go_wp2
    go_roundw
    case rel=>
     have hyl:Aside0 ((ys++natBits b 8).length<=9000000):=⟨by have:=congrArg List.length HE2.out;have:=HL.out;have h3:=HL0.out;simp [byData_len] at *;omega⟩
     first
      | exact⟨A2,m,c2,l,_,rfl,by omega,hc2,HLM,⟨fun W hb=>HRD.out W (HT.out W hb)⟩,HM2,HE2,HBY2,hyl⟩
      | ((repeat apply Exists.intro);exact⟨⟨A2,m,c2,l,_,rfl,by omega,hc2,HLM,⟨fun W hb=>HRD.out W (HT.out W hb)⟩,HM2,HE2,HBY2,hyl⟩,rfl⟩)
    case measure=>(show ((m:Int)).toNat<((n':Int)).toNat;omega)
theorem alNum_no (x:Int)(h0:32<=x)(h1:x<=90)(h:¬ alNum x<45):((32<=x/\x<=47)\/(59<=x/\x<=64))/\∀ j:Nat,j<9->alSp.getD j 0≠x:=by
 obtain⟨n,rfl⟩:∃ n:Nat,x=(n:Int):=⟨x.toNat,by omega⟩
 have hl:∀ k:Fin 59,¬ alNum ((32+k.val:Nat):Int)<45->((32+k.val<=47)\/(59<=32+k.val/\32+k.val<=64))/\∀ j:Fin 9,alSp.getD j.val 0≠((32+k.val:Nat):Int):=by decide +kernel
 have hk:=hl ⟨n-32,by omega⟩
 simp only [show 32+(n-32)=n by omega] at hk
 obtain⟨k1,k2⟩:=hk h
 exact⟨by omega,fun j hj=>k2 ⟨j,hj⟩⟩
theorem alphaNo (w:World)(x:Int)(h0:32<=x)(h1:x<=90)(h:¬ alNum x<45):Calls Tryz.prog 100 #[.int .u8 x] w fun e w'=>e=.returned (.int .i64 (-1))/\w=w':=by
 obtain⟨hr,hn⟩:=alNum_no x h0 h1 h
 have i0:∀ W,(Instr.index 215 (.agg #[.int .u8 32,.int .u8 36,.int .u8 37,.int .u8 42,.int .u8 43,.int .u8 45,.int .u8 46,.int .u8 47,.int .u8 58]) (.int .i64 0)).run Tryz.prog W=.ok (.int .u8 32) W:=fun _=>by kernel_rfl
 have i1:∀ W,(Instr.index 215 (.agg #[.int .u8 32,.int .u8 36,.int .u8 37,.int .u8 42,.int .u8 43,.int .u8 45,.int .u8 46,.int .u8 47,.int .u8 58]) (.int .i64 1)).run Tryz.prog W=.ok (.int .u8 36) W:=fun _=>by kernel_rfl
 have i2:∀ W,(Instr.index 215 (.agg #[.int .u8 32,.int .u8 36,.int .u8 37,.int .u8 42,.int .u8 43,.int .u8 45,.int .u8 46,.int .u8 47,.int .u8 58]) (.int .i64 2)).run Tryz.prog W=.ok (.int .u8 37) W:=fun _=>by kernel_rfl
 have i3:∀ W,(Instr.index 215 (.agg #[.int .u8 32,.int .u8 36,.int .u8 37,.int .u8 42,.int .u8 43,.int .u8 45,.int .u8 46,.int .u8 47,.int .u8 58]) (.int .i64 3)).run Tryz.prog W=.ok (.int .u8 42) W:=fun _=>by kernel_rfl
 have i4:∀ W,(Instr.index 215 (.agg #[.int .u8 32,.int .u8 36,.int .u8 37,.int .u8 42,.int .u8 43,.int .u8 45,.int .u8 46,.int .u8 47,.int .u8 58]) (.int .i64 4)).run Tryz.prog W=.ok (.int .u8 43) W:=fun _=>by kernel_rfl
 have i5:∀ W,(Instr.index 215 (.agg #[.int .u8 32,.int .u8 36,.int .u8 37,.int .u8 42,.int .u8 43,.int .u8 45,.int .u8 46,.int .u8 47,.int .u8 58]) (.int .i64 5)).run Tryz.prog W=.ok (.int .u8 45) W:=fun _=>by kernel_rfl
 have i6:∀ W,(Instr.index 215 (.agg #[.int .u8 32,.int .u8 36,.int .u8 37,.int .u8 42,.int .u8 43,.int .u8 45,.int .u8 46,.int .u8 47,.int .u8 58]) (.int .i64 6)).run Tryz.prog W=.ok (.int .u8 46) W:=fun _=>by kernel_rfl
 have i7:∀ W,(Instr.index 215 (.agg #[.int .u8 32,.int .u8 36,.int .u8 37,.int .u8 42,.int .u8 43,.int .u8 45,.int .u8 46,.int .u8 47,.int .u8 58]) (.int .i64 7)).run Tryz.prog W=.ok (.int .u8 47) W:=fun _=>by kernel_rfl
 have i8:∀ W,(Instr.index 215 (.agg #[.int .u8 32,.int .u8 36,.int .u8 37,.int .u8 42,.int .u8 43,.int .u8 45,.int .u8 46,.int .u8 47,.int .u8 58]) (.int .i64 8)).run Tryz.prog W=.ok (.int .u8 58) W:=fun _=>by kernel_rfl
 have HN:=Aside0.mk hn
 clear h h0 h1 hn
 rcases hr with⟨hx1,hx2⟩ | ⟨hx1,hx2⟩
 all_goals
  go_enter Tryz.func100,Tryz.ntmps100
  go_wp2
  go_loop [27] (fun v=>∃ i:Nat,v=.int .i64 (i:Int)/\i<=9) (fun v=>(9-intOf v).toNat)
  case atStart=>exact⟨0,rfl,by omega⟩
  case round=>
   obtain⟨i,rfl,hi⟩:=hrel
   by_cases hi9:i<9
   ·have hcs:i=0\/i=1\/i=2\/i=3\/i=4\/i=5\/i=6\/i=7\/i=8:=by omega
    obtain⟨y,hy⟩:∃ y,alSp.getD i 0=y:=⟨_,rfl⟩
    have hxy:=HN.out i hi9
    rw [hy] at hxy
    have idx:∀ W,(Instr.index 215 (.agg #[.int .u8 32,.int .u8 36,.int .u8 37,.int .u8 42,.int .u8 43,.int .u8 45,.int .u8 46,.int .u8 47,.int .u8 58]) (.int .i64 (i:Int))).run Tryz.prog W=.ok (.int .u8 y) W:=by
     intro W
     rw [<- hy]
     rcases hcs with rfl | rfl | rfl | rfl | rfl | rfl | rfl | rfl | rfl
     ·exact i0 W
     ·exact i1 W
     ·exact i2 W
     ·exact i3 W
     ·exact i4 W
     ·exact i5 W
     ·exact i6 W
     ·exact i7 W
     ·exact i8 W
    have hb:(x==y)=false:=beq_eq_false_iff_ne.2 (Ne.symm hxy)
    clear hcs hy hxy
    go_wp2
    go_round
    case rel=>exact⟨i+1,by go_num,by omega⟩
    case measure=>simp [intOf]<;>omega
   ·have:i=9:=by omega
    subst this
    go_wp2
    go_ret
    exact⟨rfl,rfl⟩
theorem alCh_range:∀ k:Fin 45,32<=alCh k.val/\alCh k.val<=90:=by decide
theorem alphaAny (w:World)(x:Int)(h0:32<=x)(h1:x<=90):Calls Tryz.prog 100 #[.int .u8 x] w fun e w'=>e=.returned (.int .i64 (if alNum x<45 then (alNum x:Int) else -1))/\w=w':=by
 by_cases h:alNum x<45
 ·rw [if_pos h];exact alpha100 w x h
 ·rw [if_neg h];exact alphaNo w x h0 h1 h
set_option maxHeartbeats 1000000 in
theorem alphaByte (w:World)(n:Nat)(hn:n<45):Calls Tryz.prog 52 #[.int .i64 (n:Int)] w fun e w'=>e=.returned (.int .u8 (alCh n))/\w=w':=by
 have hr:=alCh_range ⟨n,hn⟩
 obtain⟨c,hc⟩:∃ c:Nat,alCh n=(c:Int):=⟨(alCh n).toNat,by have:=hr.1;simp only at this;omega⟩
 have hnum:=alNum_look ⟨n,hn⟩
 simp only [hc] at hr hnum
 rw [hc]
 have HNUM:=Aside0.mk hnum
 have HCH:=Aside0.mk hc
 obtain⟨hr1,hr2⟩:=hr
 clear hc hnum
 go_enter Tryz.func52,Tryz.ntmps52
 go_wp2
 go_loopw [3] (fun v wr=>∃ i:Nat,v=.int .u8 (i:Int)/\32<=i/\i<=c/\Aside0 (wr=w)) (fun v _=>(91-intOf v).toNat)
 case atStart=>exact⟨32,rfl,by omega,by omega,⟨rfl⟩⟩
 case round=>
  obtain⟨i,rfl,h32,hic,HW⟩:=hrel
  have ka:=alphaAny wr (i:Int) (by omega) (by omega)
  by_cases he:i=c
  ·subst he
   rw [if_pos (by rw [HNUM.out];exact hn),HNUM.out] at ka
   go_wp2_with (go_at_call 100;refine ka.mono ?_;rintro e w' ⟨rfl,rfl⟩)
   go_ret
   exact⟨rfl,HW.out.symm⟩
  ·obtain⟨a,ha⟩:∃ a:Int,(if alNum (i:Int)<45 then (alNum (i:Int):Int) else -1)=a:=⟨_,rfl⟩
   have hne:a≠(n:Int):=by
    rw [<- ha]
    split
    ·rename_i h
     intro h2
     have h3:alNum (i:Int)=n:=by omega
     have h4:=alCh_num (i:Int) h
     rw [h3,HCH.out] at h4
     omega
    ·omega
   rw [ha] at ka
   have hb:(a==(n:Int))=false:=beq_eq_false_iff_ne.2 hne
   clear ha hne
   go_wp2_with (go_at_call 100;refine ka.mono ?_;rintro e w' ⟨rfl,rfl⟩)
   go_roundw
   case rel=>exact⟨i+1,by go_num,by omega,by omega,HW⟩
   case measure=>simp [intOf]<;>omega
theorem numSeg_bd (bs:List Nat):∀ (cnt pos:Nat) (acc ys:List Int) (p:Nat),numSeg bs pos cnt acc=some (ys,p)->pos<=8*bs.length->ys.length+pos<=acc.length+p/\p<=8*bs.length/\pos<=p:=by
 intro cnt
 induction cnt using Nat.strongRecOn with
 | ind cnt ih=>
  intro pos acc ys p h hp
  rw [numSeg] at h
  split at h
  ·split at h
   ·rename_i h3 hr
    have:=ih (cnt-3) (by omega) _ _ _ _ h hr.1
    simp only [List.length_append,List.length_cons,List.length_nil] at this
    omega
   ·cases h
  ·split at h
   ·split at h
    ·rename_i hr
     injection h with h;injection h with h1 h2
     subst h1;subst h2
     simp only [List.length_append,List.length_cons,List.length_nil]
     omega
    ·cases h
   ·split at h
    ·split at h
     ·rename_i hr
      injection h with h;injection h with h1 h2
      subst h1;subst h2
      simp only [List.length_append,List.length_cons,List.length_nil]
      omega
     ·cases h
    ·injection h with h;injection h with h1 h2
     subst h1;subst h2
     omega
theorem alSeg_bd (bs:List Nat):∀ (cnt pos:Nat) (acc ys:List Int) (p:Nat),alSeg bs pos cnt acc=some (ys,p)->pos<=8*bs.length->ys.length+pos<=acc.length+p/\p<=8*bs.length/\acc.length<=ys.length/\pos<=p:=by
 intro cnt
 induction cnt using Nat.strongRecOn with
 | ind cnt ih=>
  intro pos acc ys p h hp
  rw [alSeg] at h
  split at h
  ·split at h
   ·rename_i h3 hr
    have:=ih (cnt-2) (by omega) _ _ _ _ h hr.1
    simp only [List.length_append,List.length_cons,List.length_nil] at this
    omega
   ·cases h
  ·split at h
   ·split at h
    ·rename_i hr
     injection h with h;injection h with h1 h2
     subst h1;subst h2
     simp only [List.length_append,List.length_cons,List.length_nil]
     omega
    ·cases h
   ·injection h with h;injection h with h1 h2
    subst h1;subst h2
    omega
theorem cntBits_le (m v:Nat):1<=cntBits m v/\cntBits m v<=16:=by
 unfold cntBits
 split
 ·split
  ·omega
  ·split<;>omega
 ·split
  ·split
   ·omega
   ·split<;>omega
  ·split<;>omega
structure PS.Fits (st:PS)(L:Nat):Prop where
 pos:st.pos<=8*L
 out:st.out.length<=st.pos
 segs:st.segs.length<=st.pos
theorem alOut_len (fc:Bool)(out ys:List Int)(h:out.length<=ys.length):(alOut fc out ys).length<=ys.length:=by
 unfold alOut
 split
 ·have:=gs1_len (ys.drop out.length)
  rw [List.length_append]
  rw [List.length_drop] at this
  omega
 ·omega
theorem alSeg_pre (bs:List Nat):∀ (cnt pos:Nat) (acc ys:List Int) (p:Nat),alSeg bs pos cnt acc=some (ys,p)->ys.take acc.length=acc:=by
 intro cnt
 induction cnt using Nat.strongRecOn with
 | ind cnt ih=>
  intro pos acc ys p h
  rw [alSeg] at h
  split at h
  ·split at h
   ·have:=ih (cnt-2) (by omega) _ _ _ _ h
    have h2:=congrArg (List.take acc.length) this
    rw [List.take_take,Nat.min_eq_left (by simp),List.append_assoc,List.take_left] at h2
    exact h2
   ·cases h
  ·split at h
   ·split at h
    ·injection h with h;injection h with h1 h2
     subst h1
     exact List.take_left
    ·cases h
   ·injection h with h;injection h with h1 h2
    subst h1
    exact List.take_length
theorem Rd.inv {bs:List Nat}{v:Nat}{st:PS}{R:Option PS}(h:Rd bs v st R)(F:st.Fits bs.length) :
  (8*bs.length<st.pos+4/\R=some st)\/
  (st.pos+4<=8*bs.length/\rdBits bs st.pos 4=0/\R=some { st with pos:=st.pos+4 })\/
  (st.pos+4<=8*bs.length/\rdBits bs st.pos 4=5/\∃ st',st'={ st with pos:=st.pos+4,fc:=true }/\Rd bs v st' R/\st'.Fits bs.length)\/
  (st.pos+20<=8*bs.length/\rdBits bs st.pos 4=3/\∃ st',st'={ st with pos:=st.pos+20,sq:=rdBits bs (st.pos+4) 8,par:=rdBits bs (st.pos+12) 8 }/\Rd bs v st' R/\st'.Fits bs.length)\/
  (∃ m,st.pos+4<=8*bs.length/\rdBits bs st.pos 4=m/\(m=1\/m=2\/m=4)/\8*bs.length<st.pos+4+cntBits m v/\R=none)\/
  (rdBits bs st.pos 4=1/\st.pos+4+cntBits 1 v<=8*bs.length/\∃ ys p,numSeg bs (st.pos+4+cntBits 1 v) (rdBits bs (st.pos+4) (cntBits 1 v)) st.out=some (ys,p)/\∃ st',st'={ st with pos:=p,out:=ys }/\Rd bs v st' R/\st'.Fits bs.length/\st.pos<p)\/
  (rdBits bs st.pos 4=1/\st.pos+4+cntBits 1 v<=8*bs.length/\numSeg bs (st.pos+4+cntBits 1 v) (rdBits bs (st.pos+4) (cntBits 1 v)) st.out=none/\R=none)\/
  (rdBits bs st.pos 4=2/\st.pos+4+cntBits 2 v<=8*bs.length/\∃ ys p,alSeg bs (st.pos+4+cntBits 2 v) (rdBits bs (st.pos+4) (cntBits 2 v)) st.out=some (ys,p)/\∃ st',st'={ st with pos:=p,out:=alOut st.fc st.out ys }/\Rd bs v st' R/\st'.Fits bs.length/\st.pos<p)\/
  (rdBits bs st.pos 4=2/\st.pos+4+cntBits 2 v<=8*bs.length/\alSeg bs (st.pos+4+cntBits 2 v) (rdBits bs (st.pos+4) (cntBits 2 v)) st.out=none/\R=none)\/
  (rdBits bs st.pos 4=4/\st.pos+4+cntBits 4 v<=8*bs.length/\∃ n,rdBits bs (st.pos+4) (cntBits 4 v)=n/\st.pos+4+cntBits 4 v+8*n<=8*bs.length/\
   ∃ st',st'={ st with pos:=st.pos+4+cntBits 4 v+8*n,out:=st.out++byteSeg bs (st.pos+4+cntBits 4 v) n,segs:=st.segs++[byteSeg bs (st.pos+4+cntBits 4 v) n] }/\Rd bs v st' R/\st'.Fits bs.length)\/
  (rdBits bs st.pos 4=4/\st.pos+4+cntBits 4 v<=8*bs.length/\∃ n,rdBits bs (st.pos+4) (cntBits 4 v)=n/\8*bs.length<st.pos+4+cntBits 4 v+8*n/\R=none):=by
 obtain⟨f1,f2,f3⟩:=F
 have c1:=cntBits_le 1 v
 have c2:=cntBits_le 2 v
 have c4:=cntBits_le 4 v
 cases h with
 | done _ h1 h2=>exact .inl ⟨h2,rfl⟩
 | stop _ h1 h2=>exact .inr (.inl ⟨h1,h2,rfl⟩)
 | fnc _ _ h1 h2 h3=>exact .inr (.inr (.inl ⟨h1,h2,_,rfl,h3,h1,by show st.out.length<=st.pos+4;omega,by show st.segs.length<=st.pos+4;omega⟩))
 | part _ _ h1 h2 h3=>exact .inr (.inr (.inr (.inl ⟨h1,h2,_,rfl,h3,h1,by show st.out.length<=st.pos+20;omega,by show st.segs.length<=st.pos+20;omega⟩)))
 | short _ m h1 h2 h3 h4=>exact .inr (.inr (.inr (.inr (.inl ⟨m,h1,h2,h3,h4,rfl⟩))))
 | num _ ys p _ h1 h2 h3 h4=>
  have hb:=numSeg_bd bs _ _ _ _ _ h3 h2
  refine .inr (.inr (.inr (.inr (.inr (.inl ⟨h1,h2,ys,p,h3,_,rfl,h4,⟨hb.2.1,?_,?_⟩,?_⟩)))))
  ·show ys.length<=p;omega
  ·show st.segs.length<=p;omega
  ·omega
 | numBad _ h1 h2 h3=>exact .inr (.inr (.inr (.inr (.inr (.inr (.inl ⟨h1,h2,h3,rfl⟩))))))
 | al _ ys p _ h1 h2 h3 h4=>
  have hb:=alSeg_bd bs _ _ _ _ _ h3 h2
  have hl:=alOut_len st.fc st.out ys hb.2.2.1
  refine .inr (.inr (.inr (.inr (.inr (.inr (.inr (.inl ⟨h1,h2,ys,p,h3,_,rfl,h4,⟨hb.2.1,?_,?_⟩,?_⟩)))))))
  ·show (alOut st.fc st.out ys).length<=p;omega
  ·show st.segs.length<=p;omega
  ·omega
 | alBad _ h1 h2 h3=>exact .inr (.inr (.inr (.inr (.inr (.inr (.inr (.inr (.inl ⟨h1,h2,h3,rfl⟩))))))))
 | byte _ n _ h1 h2 h3 h4 h5=>
  refine .inr (.inr (.inr (.inr (.inr (.inr (.inr (.inr (.inr (.inl ⟨h1,h2,n,h3,h4,_,rfl,h5,h4,?_,?_⟩)))))))))
  ·show (st.out++byteSeg _ _ _).length<=st.pos+4+cntBits 4 v+8*n;rw [List.length_append];simp only [byteSeg,List.length_map,List.length_range];omega
  ·show (st.segs++[_]).length<=st.pos+4+cntBits 4 v+8*n;rw [List.length_append,List.length_singleton];omega
 | byteBad _ n h1 h2 h3 h4=>exact .inr (.inr (.inr (.inr (.inr (.inr (.inr (.inr (.inr (.inr ⟨h1,h2,n,h3,h4,rfl⟩)))))))))
theorem add_pos (ad:Addr)(j:Nat)(h:0<j):ad.add j=⟨ad.block,ad.off+j,none⟩:=by unfold Addr.add;rw [if_neg (by omega)]
theorem numData_len (t:List Int):(numData t).length<=4*t.length:=by
 induction t using numData.induct with
 | case1 a b c l ih=>rw [numData,List.length_append,natBits_len];simp;omega
 | case2 a b=>rw [numData,natBits_len];simp
 | case3 a=>rw [numData,natBits_len];simp
 | case4=>simp [numData]
theorem alData_len (t:List Int):(alData t).length<=6*t.length:=by
 induction t using alData.induct with
 | case1 a b l ih=>rw [alData,List.length_append,natBits_len];simp;omega
 | case2 a=>rw [alData,natBits_len];simp
 | case3=>simp [alData]
set_option maxHeartbeats 4000000 in
set_option maxRecDepth 8000 in
theorem dataNum (w0 w:World)(v:Value)(xs:List Bool)(A:Option Addr)(c n:Nat)(t:List Int)(hn:t.length=n)(hc:n<=c)(hT:Kd.C (Kd.int .u8) w0 A n t)(hB:Below w0.heap.size w0 w)(hO:BOwn w w0.heap.size v xs)(hz:w0.heap.size<=w.heap.size)(hby:∀ x∈t,isDig x)(hl:xs.length+8*n<=9000000) :
  Calls Tryz.prog 123 #[v,.agg #[.int .i64 1,.slice A n c]] w fun e w'=>∃ v',e=.returned v'/\BOwn w' w0.heap.size v' (xs++numData t)/\Below w0.heap.size w0 w'/\GrowR w w' v v':=by
 obtain⟨w1,hw1⟩:∃ w1,w1=w.alloc (.cells #[.int .i64 1,.slice A n c] 98):=⟨_,rfl⟩
 have HW:=Aside0.mk hw1
 have HM:=Aside0.mk (show DMem w0 w w1 v v xs w.heap.size #[.int .i64 1,.slice A n c] by
  rw [hw1]
  exact⟨own_move hO fun k hk=>by obtain⟨cs,hb⟩:=own_blk hO k hk;exact Below.heap_alloc w _ k hb.lt,hB.alloc hz _,by simp;omega,(GrowR.refl w v).below (below_alloc (Below.refl _ _) _),Blk.new _ _ _⟩)
 have HT:=Aside0.mk (show ∀ W,Below w0.heap.size w0 W->ReadsInt W .u8 A n t from fun W hb=>Kd.reads_of_C (Kd.C_below hT hb))
 have HN:=Aside0.mk hn
 have HBY:=Aside0.mk hby
 have HL:=Aside0.mk (show (xs++numData t).length<=9000000 by have:=numData_len t;rw [List.length_append];omega)
 have c0:=HM.out.box.cell 0
 have c1:=HM.out.box.cell 1
 clear hw1 hT hB hO hn hby hl
 go_enter Tryz.func123,Tryz.ntmps123
 go_wp2_with fail
 rw [<- HW.out]
 go_wp2_with fail
 clear c0 c1
 go_loopw [0,5] (fun v0 v5 wr=>∃ (A':Option Addr) (n' c':Nat) (t':List Int) (ys:List Bool),v5=.slice A' n' c'/\n'<=n/\n'<=c'/\Aside0 (t'.length=n')/\Aside0 (∀ W,Below w0.heap.size w0 W->ReadsInt W .u8 A' n' t')/\Aside0 (DMem w0 w wr v v0 ys w.heap.size #[.int .i64 1,.slice A n c])/\Aside0 (ys++numData t'=xs++numData t)/\Aside0 (∀ x∈t',isDig x)) (fun _ v5 _=>(sliceLen v5).toNat)
 case atStart=>exact⟨A,n,c,t,xs,rfl,Nat.le_refl _,hc,HN,HT,HM,⟨rfl⟩,HBY⟩
 case round=>
  clear HT HM HN HBY hc
  obtain⟨A',n',c',t',ys,rfl,hnn,hcc,HN,HT,HM,HE,HBY⟩:=hrel
  have c0:=HM.out.box.cell 0
  have hyl:Aside0 (ys.length<=9000000):=⟨by have h1:=congrArg List.length HE.out;rw [List.length_append] at h1;have h2:=HL.out;omega⟩
  by_cases h0:n'=0
  ·subst h0
   have HE2:=Aside0.mk (show ys=xs++numData t by rw [<- HE.out,List.eq_nil_of_length_eq_zero HN.out];simp [numData])
   go_wp2
   go_ret
   exact⟨_,rfl,by rw [<- HE2.out];exact HM.out.own,HM.out.bel,HM.out.gr⟩
  ·by_cases ht0:3<=n'
   ·obtain⟨xa,xb,xc,l,hxl,hle⟩:∃ xa xb xc l,t'=xa :: xb :: xc :: l/\True:=by
     have hq:=HN.out
     match t',hq with
     | [],hq=>exact absurd hq (by simp only [List.length_cons,List.length_nil];omega)
     | [_],hq=>exact absurd hq (by simp only [List.length_cons,List.length_nil];omega)
     | [_,_],hq=>exact absurd hq (by simp only [List.length_cons,List.length_nil];omega)
     | _ :: _ :: _ :: _,hq=>exact⟨_,_,_,_,rfl,trivial⟩
    subst hxl
    obtain⟨m,hm⟩:∃ m,l.length=m:=⟨_,rfl⟩
    have hmn:n'=m+3:=by have:=HN.out;simp only [List.length_cons,List.length_nil] at this;omega
    obtain⟨A2,c2,hsl,hrd,hc2⟩:=drop_int A' n' m c' 3 (xa :: xb :: xc :: l) l HN.out hm rfl (by omega) hcc
    have hr:=HT.out _ HM.out.bel
    obtain⟨ad,e0,hcell⟩:=hr.2.2 (by omega)
    have r0:=hcell 0 (by omega)
    rw [show (xa :: xb :: xc :: l).getD 0 0=xa from rfl] at r0
    have q0:wr.cell? ad=some (.int .u8 xa):=by rw [<- r0];unfold Addr.add;simp
    have r1:=hcell 1 (by omega)
    rw [show (xa :: xb :: xc :: l).getD 1 0=xb from rfl] at r1
    have q1:=r1
    rw [add_pos ad 1 (by decide)] at q1
    have r2:=hcell 2 (by omega)
    rw [show (xa :: xb :: xc :: l).getD 2 0=xc from rfl] at r2
    have q2:=r2
    rw [add_pos ad 2 (by decide)] at q2
    subst e0
    have hbd1:(1:Int)<(n':Int):=by omega
    have hbn1:1<n':=by omega
    have hbd2:(2:Int)<(n':Int):=by omega
    have hbn2:2<n':=by omega
    rw [show (((3:Nat):Int))=3 from rfl] at hsl
    have hxa:=HBY.out xa (by simp)
    have hxb:=HBY.out xb (by simp)
    have hxc:=HBY.out xc (by simp)
    obtain⟨da,hda⟩:∃ da:Nat,xa=48+(da:Int):=⟨(xa-48).toNat,by have:=hxa.1;omega⟩
    have hda9:da<=9:=by have:=hxa.2;omega
    obtain⟨db,hdb⟩:∃ db:Nat,xb=48+(db:Int):=⟨(xb-48).toNat,by have:=hxb.1;omega⟩
    have hdb9:db<=9:=by have:=hxb.2;omega
    obtain⟨dc,hdc⟩:∃ dc:Nat,xc=48+(dc:Int):=⟨(xc-48).toNat,by have:=hxc.1;omega⟩
    have hdc9:dc<=9:=by have:=hxc.2;omega
    obtain⟨N,hN⟩:∃ N,da*100+db*10+dc=N:=⟨_,rfl⟩
    have hNN:((xa-48)*100+(xb-48)*10+(xc-48)).toNat=N:=by omega
    have HE2:=Aside0.mk (show (ys++natBits N 10)++numData l=xs++numData t by rw [<- HE.out,numData,hNN,List.append_assoc])
    subst hda
    subst hdb
    subst hdc
    obtain⟨D1,hD1⟩:∃ D1,da*100=D1:=⟨_,rfl⟩
    obtain⟨D2,hD2⟩:∃ D2,db*10=D2:=⟨_,rfl⟩
    obtain⟨D3,hD3⟩:∃ D3,D1+D2=D3:=⟨_,rfl⟩
    have HRD:=Aside0.mk hrd
    have HLM:=Aside0.mk hm
    have HBY2:=Aside0.mk (show ∀ x∈l,isDig x from fun x hx=>HBY.out x (by simp [hx]))
    have hmn1:m<n':=by omega
    have HMd:=Aside0.mk HM.out.drew
    have kad:=addP (n:=N) (k:=10) (a:=(N:Int)) (b:=10) HMd.out rfl rfl (by omega) (by decide) (by have:=hyl.out;omega)
    clear hmn hrd hm hr hcell hxa hxb hxc
    go_wp2_with fail
    have ku0:IntKind.u8.wrap (48+(da:Int)-48)=(da:Int):=by rw [IntWalk.u8_in _ (by omega)];omega
    have ki0:IntKind.i64.wrap (da:Int)=(da:Int):=IntWalk.i64_in _ (by omega)
    have ku1:IntKind.u8.wrap (48+(db:Int)-48)=(db:Int):=by rw [IntWalk.u8_in _ (by omega)];omega
    have ki1:IntKind.i64.wrap (db:Int)=(db:Int):=IntWalk.i64_in _ (by omega)
    have ku2:IntKind.u8.wrap (48+(dc:Int)-48)=(dc:Int):=by rw [IntWalk.u8_in _ (by omega)];omega
    have ki2:IntKind.i64.wrap (dc:Int)=(dc:Int):=IntWalk.i64_in _ (by omega)
    have km0:IntKind.i64.wrap ((da:Int)*100)=(D1:Int):=by rw [IntWalk.i64_in _ (by omega)];omega
    have km1:IntKind.i64.wrap ((db:Int)*10)=(D2:Int):=by rw [IntWalk.i64_in _ (by omega)];omega
    have ks1:IntKind.i64.wrap ((D1:Int)+(D2:Int))=(D3:Int):=by rw [IntWalk.i64_in _ (by omega)];omega
    have ks2:IntKind.i64.wrap ((D3:Int)+(dc:Int))=(N:Int):=by rw [IntWalk.i64_in _ (by omega)];omega
    go_region_with (go_at_call 66;with_reducible (refine kad.mono ?_);rintro e w2 ⟨v2,rfl,hM2⟩;have HM2:=Aside0.mk hM2;clear hM2)
    all_goals
     clear ku0 ki0 ku1 ki1 ku2 ki2 km0 km1 ks1 ks2 hsl r0 q0 r1 q1 r2 q2
     go_wp2
     go_roundw
     case rel=>
      first
       | exact⟨A2,m,c2,l,_,rfl,by omega,hc2,HLM,⟨fun W hb=>HRD.out W (HT.out W hb)⟩,HM2,HE2,HBY2⟩
       | ((repeat apply Exists.intro);exact⟨⟨A2,m,c2,l,_,rfl,by omega,hc2,HLM,⟨fun W hb=>HRD.out W (HT.out W hb)⟩,HM2,HE2,HBY2⟩,rfl⟩)
     case measure=>(show ((m:Int)).toNat<((n':Int)).toNat;omega)
   ·by_cases ht1:n'=2
    ·subst ht1
     obtain⟨xa,xb,l,hxl,hle⟩:∃ xa xb l,t'=xa :: xb :: l/\l=[]:=by
      have hq:=HN.out
      match t',hq with
      | [],hq=>exact absurd hq (by simp only [List.length_cons,List.length_nil];omega)
      | [_],hq=>exact absurd hq (by simp only [List.length_cons,List.length_nil];omega)
      | _ :: _ :: _,hq=>exact⟨_,_,_,rfl,List.eq_nil_of_length_eq_zero (by simp only [List.length_cons,List.length_nil] at hq;omega)⟩
     subst hxl
     obtain⟨m,hm⟩:∃ m,l.length=m:=⟨_,rfl⟩
     have hmn:2=m+2:=by have:=HN.out;simp only [List.length_cons,List.length_nil] at this;omega
     obtain⟨A2,c2,hsl,hrd,hc2⟩:=drop_int A' 2 m c' 2 (xa :: xb :: l) l HN.out hm rfl (by omega) hcc
     have hr:=HT.out _ HM.out.bel
     obtain⟨ad,e0,hcell⟩:=hr.2.2 (by omega)
     have r0:=hcell 0 (by omega)
     rw [show (xa :: xb :: l).getD 0 0=xa from rfl] at r0
     have q0:wr.cell? ad=some (.int .u8 xa):=by rw [<- r0];unfold Addr.add;simp
     have r1:=hcell 1 (by omega)
     rw [show (xa :: xb :: l).getD 1 0=xb from rfl] at r1
     have q1:=r1
     rw [add_pos ad 1 (by decide)] at q1
     subst e0
     have hbd1:(1:Int)<(2:Int):=by omega
     have hbn1:1<2:=by omega
     rw [show (((2:Nat):Int))=2 from rfl] at hsl
     have hxa:=HBY.out xa (by simp)
     have hxb:=HBY.out xb (by simp)
     obtain⟨da,hda⟩:∃ da:Nat,xa=48+(da:Int):=⟨(xa-48).toNat,by have:=hxa.1;omega⟩
     have hda9:da<=9:=by have:=hxa.2;omega
     obtain⟨db,hdb⟩:∃ db:Nat,xb=48+(db:Int):=⟨(xb-48).toNat,by have:=hxb.1;omega⟩
     have hdb9:db<=9:=by have:=hxb.2;omega
     obtain⟨N,hN⟩:∃ N,da*10+db=N:=⟨_,rfl⟩
     have hNN:((xa-48)*10+(xb-48)).toNat=N:=by omega
     have HE2:=Aside0.mk (show (ys++natBits N 7)++numData l=xs++numData t by rw [<- HE.out,hle,numData,hNN,numData,List.append_nil])
     subst hda
     subst hdb
     obtain⟨D1,hD1⟩:∃ D1,da*10=D1:=⟨_,rfl⟩
     have HRD:=Aside0.mk hrd
     have HLM:=Aside0.mk hm
     have HBY2:=Aside0.mk (show ∀ x∈l,isDig x from fun x hx=>HBY.out x (by simp [hx]))
     have hmn1:m<2:=by omega
     have HMd:=Aside0.mk HM.out.drew
     have kad:=addP (n:=N) (k:=7) (a:=(N:Int)) (b:=7) HMd.out rfl rfl (by omega) (by decide) (by have:=hyl.out;omega)
     clear hmn hrd hm hr hcell hxa hxb
     go_wp2_with fail
     have ku0:IntKind.u8.wrap (48+(da:Int)-48)=(da:Int):=by rw [IntWalk.u8_in _ (by omega)];omega
     have ki0:IntKind.i64.wrap (da:Int)=(da:Int):=IntWalk.i64_in _ (by omega)
     have ku1:IntKind.u8.wrap (48+(db:Int)-48)=(db:Int):=by rw [IntWalk.u8_in _ (by omega)];omega
     have ki1:IntKind.i64.wrap (db:Int)=(db:Int):=IntWalk.i64_in _ (by omega)
     have km0:IntKind.i64.wrap ((da:Int)*10)=(D1:Int):=by rw [IntWalk.i64_in _ (by omega)];omega
     have ks1:IntKind.i64.wrap ((D1:Int)+(db:Int))=(N:Int):=by rw [IntWalk.i64_in _ (by omega)];omega
     go_region_with (go_at_call 66;with_reducible (refine kad.mono ?_);rintro e w2 ⟨v2,rfl,hM2⟩;have HM2:=Aside0.mk hM2;clear hM2)
     all_goals
      clear ku0 ki0 ku1 ki1 km0 ks1 hsl r0 q0 r1 q1
      go_wp2
      go_roundw
      case rel=>
       first
        | exact⟨A2,m,c2,l,_,rfl,by omega,hc2,HLM,⟨fun W hb=>HRD.out W (HT.out W hb)⟩,HM2,HE2,HBY2⟩
        | ((repeat apply Exists.intro);exact⟨⟨A2,m,c2,l,_,rfl,by omega,hc2,HLM,⟨fun W hb=>HRD.out W (HT.out W hb)⟩,HM2,HE2,HBY2⟩,rfl⟩)
      case measure=>(show ((m:Int)).toNat<((2:Int)).toNat;omega)
    ·obtain⟨xa,l,hxl,hle⟩:∃ xa l,t'=xa :: l/\l=[]:=by
      have hq:=HN.out
      match t',hq with
      | [],hq=>exact absurd hq (by simp only [List.length_cons,List.length_nil];omega)
      | _ :: _,hq=>exact⟨_,_,rfl,List.eq_nil_of_length_eq_zero (by simp only [List.length_cons,List.length_nil] at hq;omega)⟩
     subst hxl
     obtain⟨m,hm⟩:∃ m,l.length=m:=⟨_,rfl⟩
     have hmn:n'=m+1:=by have:=HN.out;simp only [List.length_cons,List.length_nil] at this;omega
     obtain⟨A2,c2,hsl,hrd,hc2⟩:=drop_int A' n' m c' 1 (xa :: l) l HN.out hm rfl (by omega) hcc
     have hr:=HT.out _ HM.out.bel
     obtain⟨ad,e0,hcell⟩:=hr.2.2 (by omega)
     have r0:=hcell 0 (by omega)
     rw [show (xa :: l).getD 0 0=xa from rfl] at r0
     have q0:wr.cell? ad=some (.int .u8 xa):=by rw [<- r0];unfold Addr.add;simp
     subst e0
     rw [show (((1:Nat):Int))=1 from rfl] at hsl
     have hxa:=HBY.out xa (by simp)
     obtain⟨N,hN⟩:∃ N:Nat,xa=48+(N:Int):=⟨(xa-48).toNat,by have:=hxa.1;omega⟩
     have hN9:N<=9:=by have:=hxa.2;omega
     have hNN:(xa-48).toNat=N:=by omega
     have HE2:=Aside0.mk (show (ys++natBits N 4)++numData l=xs++numData t by rw [<- HE.out,hle,numData,hNN,numData,List.append_nil])
     subst hN
     have HRD:=Aside0.mk hrd
     have HLM:=Aside0.mk hm
     have HBY2:=Aside0.mk (show ∀ x∈l,isDig x from fun x hx=>HBY.out x (by simp [hx]))
     have hmn1:m<n':=by omega
     have HMd:=Aside0.mk HM.out.drew
     have kad:=addP (n:=N) (k:=4) (a:=(N:Int)) (b:=4) HMd.out rfl rfl (by omega) (by decide) (by have:=hyl.out;omega)
     clear hmn hrd hm hr hcell hxa
     go_wp2_with fail
     have ku0:IntKind.u8.wrap (48+(N:Int)-48)=(N:Int):=by rw [IntWalk.u8_in _ (by omega)];omega
     have ki0:IntKind.i64.wrap (N:Int)=(N:Int):=IntWalk.i64_in _ (by omega)
     go_region_with (go_at_call 66;with_reducible (refine kad.mono ?_);rintro e w2 ⟨v2,rfl,hM2⟩;have HM2:=Aside0.mk hM2;clear hM2)
     all_goals
      clear ku0 ki0 hsl r0 q0
      go_wp2
      go_roundw
      case rel=>
       first
        | exact⟨A2,m,c2,l,_,rfl,by omega,hc2,HLM,⟨fun W hb=>HRD.out W (HT.out W hb)⟩,HM2,HE2,HBY2⟩
        | ((repeat apply Exists.intro);exact⟨⟨A2,m,c2,l,_,rfl,by omega,hc2,HLM,⟨fun W hb=>HRD.out W (HT.out W hb)⟩,HM2,HE2,HBY2⟩,rfl⟩)
      case measure=>(show ((m:Int)).toNat<((n':Int)).toNat;omega)
set_option maxHeartbeats 4000000 in
set_option maxRecDepth 8000 in
theorem dataAl (w0 w:World)(v:Value)(xs:List Bool)(A:Option Addr)(c n:Nat)(t:List Int)(hn:t.length=n)(hc:n<=c)(hT:Kd.C (Kd.int .u8) w0 A n t)(hB:Below w0.heap.size w0 w)(hO:BOwn w w0.heap.size v xs)(hz:w0.heap.size<=w.heap.size)(hby:∀ x∈t,alNum x<45)(hl:xs.length+8*n<=9000000) :
  Calls Tryz.prog 123 #[v,.agg #[.int .i64 2,.slice A n c]] w fun e w'=>∃ v',e=.returned v'/\BOwn w' w0.heap.size v' (xs++alData t)/\Below w0.heap.size w0 w'/\GrowR w w' v v':=by
 obtain⟨w1,hw1⟩:∃ w1,w1=w.alloc (.cells #[.int .i64 2,.slice A n c] 98):=⟨_,rfl⟩
 have HW:=Aside0.mk hw1
 have HM:=Aside0.mk (show DMem w0 w w1 v v xs w.heap.size #[.int .i64 2,.slice A n c] by
  rw [hw1]
  exact⟨own_move hO fun k hk=>by obtain⟨cs,hb⟩:=own_blk hO k hk;exact Below.heap_alloc w _ k hb.lt,hB.alloc hz _,by simp;omega,(GrowR.refl w v).below (below_alloc (Below.refl _ _) _),Blk.new _ _ _⟩)
 have HT:=Aside0.mk (show ∀ W,Below w0.heap.size w0 W->ReadsInt W .u8 A n t from fun W hb=>Kd.reads_of_C (Kd.C_below hT hb))
 have HN:=Aside0.mk hn
 have HBY:=Aside0.mk hby
 have HL:=Aside0.mk (show (xs++alData t).length<=9000000 by have:=alData_len t;rw [List.length_append];omega)
 have c0:=HM.out.box.cell 0
 have c1:=HM.out.box.cell 1
 clear hw1 hT hB hO hn hby hl
 go_enter Tryz.func123,Tryz.ntmps123
 go_wp2_with fail
 rw [<- HW.out]
 go_wp2_with fail
 clear c0 c1
 go_loopw [0,5] (fun v0 v5 wr=>∃ (A':Option Addr) (n' c':Nat) (t':List Int) (ys:List Bool),v5=.slice A' n' c'/\n'<=n/\n'<=c'/\Aside0 (t'.length=n')/\Aside0 (∀ W,Below w0.heap.size w0 W->ReadsInt W .u8 A' n' t')/\Aside0 (DMem w0 w wr v v0 ys w.heap.size #[.int .i64 2,.slice A n c])/\Aside0 (ys++alData t'=xs++alData t)/\Aside0 (∀ x∈t',alNum x<45)) (fun _ v5 _=>(sliceLen v5).toNat)
 case atStart=>exact⟨A,n,c,t,xs,rfl,Nat.le_refl _,hc,HN,HT,HM,⟨rfl⟩,HBY⟩
 case round=>
  clear HT HM HN HBY hc
  obtain⟨A',n',c',t',ys,rfl,hnn,hcc,HN,HT,HM,HE,HBY⟩:=hrel
  have c0:=HM.out.box.cell 0
  have hyl:Aside0 (ys.length<=9000000):=⟨by have h1:=congrArg List.length HE.out;rw [List.length_append] at h1;have h2:=HL.out;omega⟩
  by_cases h0:n'=0
  ·subst h0
   have HE2:=Aside0.mk (show ys=xs++alData t by rw [<- HE.out,List.eq_nil_of_length_eq_zero HN.out];simp [alData])
   go_wp2
   go_ret
   exact⟨_,rfl,by rw [<- HE2.out];exact HM.out.own,HM.out.bel,HM.out.gr⟩
  ·by_cases ht0:2<=n'
   ·obtain⟨xa,xb,l,hxl,hle⟩:∃ xa xb l,t'=xa :: xb :: l/\True:=by
     have hq:=HN.out
     match t',hq with
     | [],hq=>exact absurd hq (by simp only [List.length_cons,List.length_nil];omega)
     | [_],hq=>exact absurd hq (by simp only [List.length_cons,List.length_nil];omega)
     | _ :: _ :: _,hq=>exact⟨_,_,_,rfl,trivial⟩
    subst hxl
    obtain⟨m,hm⟩:∃ m,l.length=m:=⟨_,rfl⟩
    have hmn:n'=m+2:=by have:=HN.out;simp only [List.length_cons,List.length_nil] at this;omega
    obtain⟨A2,c2,hsl,hrd,hc2⟩:=drop_int A' n' m c' 2 (xa :: xb :: l) l HN.out hm rfl (by omega) hcc
    have hr:=HT.out _ HM.out.bel
    obtain⟨ad,e0,hcell⟩:=hr.2.2 (by omega)
    have r0:=hcell 0 (by omega)
    rw [show (xa :: xb :: l).getD 0 0=xa from rfl] at r0
    have q0:wr.cell? ad=some (.int .u8 xa):=by rw [<- r0];unfold Addr.add;simp
    have r1:=hcell 1 (by omega)
    rw [show (xa :: xb :: l).getD 1 0=xb from rfl] at r1
    have q1:=r1
    rw [add_pos ad 1 (by decide)] at q1
    subst e0
    have hbd1:(1:Int)<(n':Int):=by omega
    have hbn1:1<n':=by omega
    rw [show (((2:Nat):Int))=2 from rfl] at hsl
    have hxa:=HBY.out xa (by simp)
    have hxb:=HBY.out xb (by simp)
    obtain⟨da,hda⟩:∃ da,alNum xa=da:=⟨_,rfl⟩
    have kalda:∀ W,Calls Tryz.prog 100 #[.int .u8 xa] W fun e w'=>e=.returned (.int .i64 (da:Int))/\W=w':=fun W=>by rw [<- hda];exact alpha100 W xa hxa
    have hda9:da<45:=by rw [<- hda];exact hxa
    obtain⟨db,hdb⟩:∃ db,alNum xb=db:=⟨_,rfl⟩
    have kaldb:∀ W,Calls Tryz.prog 100 #[.int .u8 xb] W fun e w'=>e=.returned (.int .i64 (db:Int))/\W=w':=fun W=>by rw [<- hdb];exact alpha100 W xb hxb
    have hdb9:db<45:=by rw [<- hdb];exact hxb
    obtain⟨D1,hD1⟩:∃ D1,da*45=D1:=⟨_,rfl⟩
    obtain⟨N,hN⟩:∃ N,D1+db=N:=⟨_,rfl⟩
    have hNN:alNum xa*45+alNum xb=N:=by rw [hda,hdb];omega
    have HE2:=Aside0.mk (show (ys++natBits N 11)++alData l=xs++alData t by rw [<- HE.out,alData,hNN,List.append_assoc])
    clear hda hdb hNN
    have HRD:=Aside0.mk hrd
    have HLM:=Aside0.mk hm
    have HBY2:=Aside0.mk (show ∀ x∈l,alNum x<45 from fun x hx=>HBY.out x (by simp [hx]))
    have hmn1:m<n':=by omega
    have HMd:=Aside0.mk HM.out.drew
    have kad:=addP (n:=N) (k:=11) (a:=(N:Int)) (b:=11) HMd.out rfl rfl (by omega) (by decide) (by have:=hyl.out;omega)
    clear hmn hrd hm hr hcell hxa hxb
    go_wp2_with fail
    have km0:IntKind.i64.wrap ((da:Int)*45)=(D1:Int):=by rw [IntWalk.i64_in _ (by omega)];omega
    have ks1:IntKind.i64.wrap ((D1:Int)+(db:Int))=(N:Int):=by rw [IntWalk.i64_in _ (by omega)];omega
    go_region_with (first | (go_at_call 66;with_reducible (refine kad.mono ?_);rintro e w2 ⟨v2,rfl,hM2⟩;have HM2:=Aside0.mk hM2;clear hM2) | (go_at_call 100;with_reducible (refine (kalda _).mono ?_);rintro e w2 ⟨rfl,rfl⟩) | (go_at_call 100;with_reducible (refine (kaldb _).mono ?_);rintro e w2 ⟨rfl,rfl⟩))
    all_goals
     clear kalda kaldb km0 ks1 hsl r0 q0 r1 q1
     go_wp2
     go_roundw
     case rel=>
      first
       | exact⟨A2,m,c2,l,_,rfl,by omega,hc2,HLM,⟨fun W hb=>HRD.out W (HT.out W hb)⟩,HM2,HE2,HBY2⟩
       | ((repeat apply Exists.intro);exact⟨⟨A2,m,c2,l,_,rfl,by omega,hc2,HLM,⟨fun W hb=>HRD.out W (HT.out W hb)⟩,HM2,HE2,HBY2⟩,rfl⟩)
     case measure=>(show ((m:Int)).toNat<((n':Int)).toNat;omega)
   ·obtain⟨xa,l,hxl,hle⟩:∃ xa l,t'=xa :: l/\l=[]:=by
     have hq:=HN.out
     match t',hq with
     | [],hq=>exact absurd hq (by simp only [List.length_cons,List.length_nil];omega)
     | _ :: _,hq=>exact⟨_,_,rfl,List.eq_nil_of_length_eq_zero (by simp only [List.length_cons,List.length_nil] at hq;omega)⟩
    subst hxl
    obtain⟨m,hm⟩:∃ m,l.length=m:=⟨_,rfl⟩
    have hmn:n'=m+1:=by have:=HN.out;simp only [List.length_cons,List.length_nil] at this;omega
    obtain⟨A2,c2,hsl,hrd,hc2⟩:=drop_int A' n' m c' 1 (xa :: l) l HN.out hm rfl (by omega) hcc
    have hr:=HT.out _ HM.out.bel
    obtain⟨ad,e0,hcell⟩:=hr.2.2 (by omega)
    have r0:=hcell 0 (by omega)
    rw [show (xa :: l).getD 0 0=xa from rfl] at r0
    have q0:wr.cell? ad=some (.int .u8 xa):=by rw [<- r0];unfold Addr.add;simp
    subst e0
    rw [show (((1:Nat):Int))=1 from rfl] at hsl
    have hxa:=HBY.out xa (by simp)
    obtain⟨N,hN⟩:∃ N,alNum xa=N:=⟨_,rfl⟩
    have kalda:∀ W,Calls Tryz.prog 100 #[.int .u8 xa] W fun e w'=>e=.returned (.int .i64 (N:Int))/\W=w':=fun W=>by rw [<- hN];exact alpha100 W xa hxa
    have hN9:N<45:=by rw [<- hN];exact hxa
    have HE2:=Aside0.mk (show (ys++natBits N 6)++alData l=xs++alData t by rw [<- HE.out,hle,alData,hN,alData,List.append_nil])
    clear hN
    have HRD:=Aside0.mk hrd
    have HLM:=Aside0.mk hm
    have HBY2:=Aside0.mk (show ∀ x∈l,alNum x<45 from fun x hx=>HBY.out x (by simp [hx]))
    have hmn1:m<n':=by omega
    have HMd:=Aside0.mk HM.out.drew
    have kad:=addP (n:=N) (k:=6) (a:=(N:Int)) (b:=6) HMd.out rfl rfl (by omega) (by decide) (by have:=hyl.out;omega)
    clear hmn hrd hm hr hcell hxa
    go_wp2_with fail
    go_region_with (first | (go_at_call 66;with_reducible (refine kad.mono ?_);rintro e w2 ⟨v2,rfl,hM2⟩;have HM2:=Aside0.mk hM2;clear hM2) | (go_at_call 100;with_reducible (refine (kalda _).mono ?_);rintro e w2 ⟨rfl,rfl⟩))
    all_goals
     clear kalda hsl r0 q0
     go_wp2
     go_roundw
     case rel=>
      first
       | exact⟨A2,m,c2,l,_,rfl,by omega,hc2,HLM,⟨fun W hb=>HRD.out W (HT.out W hb)⟩,HM2,HE2,HBY2⟩
       | ((repeat apply Exists.intro);exact⟨⟨A2,m,c2,l,_,rfl,by omega,hc2,HLM,⟨fun W hb=>HRD.out W (HT.out W hb)⟩,HM2,HE2,HBY2⟩,rfl⟩)
     case measure=>(show ((m:Int)).toNat<((n':Int)).toNat;omega)
theorem cell_on {w wx:World}{a:Addr}{v:Value}(hb:Below w.heap.size w wx)(h:w.cell? a=some v):wx.cell? a=some v:=(hb.cell (World.block_lt_of_cell? _ _ h)).trans h
def toSg (s:F.S98):Sg:=⟨s.f0.toNat,s.f1⟩
structure SegOK (s:F.S98)(v:Nat):Prop where
 mode:s.f0=1\/s.f0=2\/s.f0=4
 num:s.f0=1->∀ x∈s.f1,isDig x
 al:s.f0=2->∀ x∈s.f1,alNum x<45
 by_:∀ x∈s.f1,0<=x/\x<=255
 len:s.f1.length<2 ^ cntBits s.f0.toNat v
 short:s.f1.length<=2000
theorem SegOK.ok {s:F.S98}{v:Nat}(h:SegOK s v):(toSg s).Ok v:=by
 refine⟨?_,fun hm=>h.num ?_,fun hm=>h.al ?_,h.by_,h.len⟩
 ·rcases h.mode with e | e | e<;>simp [toSg,e]
 ·have hm:s.f0.toNat=1:=hm
  rcases h.mode with e | e | e<;>omega
 ·have hm:s.f0.toNat=2:=hm
  rcases h.mode with e | e | e<;>omega
structure SMem (w wr:World)(v6:Value)(bits:List Bool)(p:Nat)(m:Int)(A:Option Addr)(n c:Nat):Prop where
 own:BOwn wr w.heap.size v6 bits
 bel:Below w.heap.size w wr
 box:Blk wr p 98 #[.int .i64 m,.slice A n c]
theorem BOwn.under {w w':World}{base:Nat}{v:Value}{xs:List Bool}(h:BOwn w base v xs)(hb:Below w.heap.size w w'):BOwn w' base v xs:=own_move h fun k hk=>by
 obtain⟨cs,hc⟩:=own_blk h k hk
 exact hb.block k hc.lt
section
variable {w wr:World} {v6:Value} {bits:List Bool} {p:Nat} {m:Int} {A:Option Addr} {n c:Nat}
theorem SMem.under {w':World}(h:SMem w wr v6 bits p m A n c)(hb:Below wr.heap.size wr w'):SMem w w' v6 bits p m A n c :=
 ⟨h.own.under hb,h.bel.trans (hb.mono h.bel.size),h.box.below hb h.box.lt⟩
theorem SMem.drew (h:SMem w wr v6 bits p m A n c):SMem w wr.drew v6 bits p m A n c:=h.under ⟨rfl,rfl,rfl,Nat.le_refl _,fun _ _=>rfl⟩
theorem addS {N k:Nat}{a b:Int}(h:SMem w wr v6 bits p m A n c)(ha:a=(N:Int))(hb:b=(k:Int))(hn:N<2147483648)(hk:k<=60)(hxl:bits.length<=9000000) :
  Calls Tryz.prog 66 #[v6,.int .i64 a,.int .i64 b] wr fun e w'=>∃ v',e=.returned v'/\SMem w w' v' (bits++natBits N k) p m A n c:=by
 subst ha hb
 refine (qrAdd w wr w.heap.size N k v6 bits h.own h.bel h.bel.size hn hk (by omega)).mono ?_
 rintro e w' ⟨v',rfl,h1,h2,h3⟩
 exact⟨v',rfl,h1,h2,(h3.by_.block p h.box.lt (own_ne h.own h.box (by decide))).trans h.box⟩
theorem dataS {s:F.S98}{v:Nat}(h:SMem w wr v6 bits p m A n c)(hs:SegOK s v)(hm:s.f0=m)(hn:s.f1.length=n)(hc:n<=c)(hC:Kd.C (Kd.int .u8) w A n s.f1)(hxl:bits.length<=8000000) :
  Calls Tryz.prog 123 #[v6,.agg #[.int .i64 m,.slice A n c]] wr fun e w'=>∃ v',e=.returned v'/\BOwn w' w.heap.size v' (bits++sgData (toSg s))/\Below w.heap.size w w':=by
 have hsh:=hs.short
 rcases hs.mode with e | e | e
 ·have hd:sgData (toSg s)=numData s.f1:=by simp [sgData,toSg,e]
  rw [<- hm,e,hd]
  refine (dataNum w wr v6 bits A c n s.f1 hn hc hC h.bel h.own h.bel.size (hs.num e) (by omega)).mono ?_
  rintro e w' ⟨v',rfl,h1,h2,h3⟩
  exact⟨v',rfl,h1,h2⟩
 ·have hd:sgData (toSg s)=alData s.f1:=by simp [sgData,toSg,e]
  rw [<- hm,e,hd]
  refine (dataAl w wr v6 bits A c n s.f1 hn hc hC h.bel h.own h.bel.size (hs.al e) (by omega)).mono ?_
  rintro e w' ⟨v',rfl,h1,h2,h3⟩
  exact⟨v',rfl,h1,h2⟩
 ·have hd:sgData (toSg s)=byData s.f1:=by simp [sgData,toSg,e]
  rw [<- hm,e,hd]
  refine (dataByte w wr v6 bits A c n s.f1 hn hc hC h.bel h.own h.bel.size hs.by_ (by omega)).mono ?_
  rintro e w' ⟨v',rfl,h1,h2,h3⟩
  exact⟨v',rfl,h1,h2⟩
theorem fitsS {s:F.S98}{v:Nat}(h:SMem w wr v6 bits p m A n c)(hs:SegOK s v)(hm:s.f0=m)(hn:s.f1.length=n)(hC:Kd.C (Kd.int .u8) w A n s.f1) :
  Calls Tryz.prog 122 #[.agg #[.int .i64 m,.slice A n c]] wr fun e w'=>e=.returned (.bool true)/\SMem w w' v6 bits p m A n c:=by
 have hsh:=hs.short
 refine (fits122 wr m A c s.f1 n hn (by rw [<- hm];exact hs.mode) (Kd.C_below hC h.bel) (fun e=>hs.num (by omega)) (fun e=>hs.al (by omega)) (by omega)).mono ?_
 rintro e w' ⟨rfl,hb⟩
 exact⟨rfl,h.under hb⟩
theorem cntS {v k:Nat}(h:SMem w wr v6 bits p m A n c)(hm:m=1\/m=2\/m=4)(hv:1<=v/\v<=40)(hk:cntBits m.toNat v=k) :
  Calls Tryz.prog 58 #[.int .i64 m,.int .i64 (v:Int)] wr fun e w'=>e=.returned (.tuple #[.int .i64 (k:Int),.bool true])/\SMem w w' v6 bits p m A n c:=by
 refine (cnt58 wr m.toNat v m (by omega) (by omega) hv).mono ?_
 rintro e w' ⟨rfl,hb⟩
 exact⟨by rw [hk],h.under hb⟩
end
theorem sgBits_len (s:Sg)(v:Nat)(h:s.text.length<=2000):(sgBits s v).length<=20000:=by
 have h1:=cntBits_le s.mode v
 have h2:(sgData s).length<=8*s.text.length:=by
  unfold sgData
  split
  ·have:=numData_len s.text;omega
  ·split
   ·have:=alData_len s.text;omega
   ·rw [byData_len];omega
 unfold sgBits
 rw [List.length_append,List.length_append,natBits_len,natBits_len]
 omega
set_option maxHeartbeats 4000000 in
set_option maxRecDepth 8000 in
theorem stream67 (w:World)(A:Option Addr)(c n v:Nat)(l:List F.S98)(hl:Kd.C F.k98 w A n l)(hn:l.length=n)(hv:1<=v/\v<=40)(hs:∀ s∈l,SegOK s v)(hn2:n<=200) :
  Calls Tryz.prog 67 #[.slice A n c,.int .i64 (v:Int)] w fun e w'=>∃ v',e=.returned (.tuple #[v',.bool true])/\BOwn w' w.heap.size v' (sgStream (l.map toSg) v)/\Below w.heap.size w w':=by
 have HC:=Aside0.mk hl
 have HN:=Aside0.mk hn
 have HS:=Aside0.mk hs
 have HV:=Aside0.mk hv
 clear hl hn hs hv
 go_enter Tryz.func67,Tryz.ntmps67
 go_wp2_with fail
 go_loopw [6,13] (fun v6 v13 wr=>∃ i:Nat,v13=.int .i64 (i:Int)/\i<=n/\Aside0 (BOwn wr w.heap.size v6 (sgStream ((l.take i).map toSg) v))/\Aside0 (Below w.heap.size w wr)/\Aside0 ((sgStream ((l.take i).map toSg) v).length<=20000*i)) (fun _ v13 _=>(n-intOf v13).toNat)
 case atStart=>exact⟨0,rfl,Nat.zero_le _,⟨⟨rfl,.inl ⟨rfl,rfl⟩⟩⟩,⟨Below.refl _ _⟩,⟨by simp [sgStream]⟩⟩
 case round=>
  obtain⟨i,rfl,hi,HO,HB,HL⟩:=hrel
  by_cases hin:i<n
  ·obtain⟨ad,A1,c1,e0,r0,r1,l1,g1⟩:=F.at_T98 HC.out (i:Int) (by omega) (by omega)
   rw [Int.toNat_natCast] at r0 r1
   obtain⟨s,hss⟩:∃ s,F.rd_T98 l i=s:=⟨_,rfl⟩
   rw [hss] at r0 r1 l1 g1
   have hgi:l[i]? = some s:=by
    have hlt:i<l.length:=by rw [HN.out];exact hin
    rw [List.getElem?_eq_getElem hlt,<- hss]
    unfold F.rd_T98
    rw [Int.toNat_natCast,List.getD_eq_getElem?_getD,List.getElem?_eq_getElem hlt]
    rfl
   have hso:=HS.out s (List.mem_of_getElem? hgi)
   have HTK:=Aside0.mk (show sgStream ((l.take (i+1)).map toSg) v=sgStream ((l.take i).map toSg) v++sgBits (toSg s) v by
    rw [List.take_add_one,hgi]
    simp [sgStream])
   obtain⟨m,hm⟩:∃ m,s.f0=m:=⟨_,rfl⟩
   obtain⟨k,hk⟩:∃ k,s.f1.length=k:=⟨_,rfl⟩
   obtain⟨cb,hcb⟩:∃ cb,cntBits m.toNat v=cb:=⟨_,rfl⟩
   obtain⟨bits,hbits⟩:∃ bits,sgStream ((l.take i).map toSg) v=bits:=⟨_,rfl⟩
   have HNX:=Aside0.mk (show sgBits (toSg s) v=natBits m.toNat 4++(natBits k cb++sgData (toSg s)) by unfold sgBits toSg;rw [hm,hk,hcb])
   rw [hm] at r0
   rw [hk] at r1 l1 g1
   rw [hbits] at HO HL HTK
   subst e0
   replace r0:=cell_on HB.out r0
   replace r1:=cell_on HB.out r1
   have HSO:=Aside0.mk hso
   have HM:=Aside0.mk hm
   have HK:=Aside0.mk hk
   have HCB:=Aside0.mk hcb
   have HG:=Aside0.mk g1
   have HBL:=Aside0.mk (show bits.length<=4000000 by have:=HL.out;omega)
   have hmm:m=1\/m=2\/m=4:=by rw [<- hm];exact hso.mode
   have hkc:k<2 ^ cb:=by rw [<- hk,<- hcb,<- hm];exact hso.len
   have hcb16:cb<=16:=by rw [<- hcb];exact (cntBits_le _ _).2
   have hk2:k<=2000:=by rw [<- hk];exact hso.short
   obtain⟨P2,hP2⟩:∃ P2:Nat,2 ^ cb=P2:=⟨_,rfl⟩
   have hP2i:((2:Int) ^ cb)=(P2:Int):=by rw [<- hP2];simp
   have hP3:P2<=65536:=by rw [<- hP2];exact Nat.le_trans (Nat.pow_le_pow_right (by decide) hcb16) (by decide)
   rw [hP2] at hkc
   have hwp:IntKind.i64.wrap (2 ^ cb)=(P2:Int):=by rw [hP2i];exact IntWalk.i64_in _ (by omega)
   have HWP:=Aside0.mk hwp
   clear hP2 hP2i hwp
   obtain⟨wa,hwa⟩:∃ wa,wa=wr.alloc (.cells #[.int .i64 m,.slice A1 k c1] 98):=⟨_,rfl⟩
   have HSM:=Aside0.mk (show SMem w wa u6 bits wr.heap.size m A1 k c1 by
    rw [hwa]
    exact⟨HO.out.under (below_alloc (Below.refl _ _) _),HB.out.alloc HB.out.size _,Blk.new _ _ _⟩)
   have HWA:=Aside0.mk hwa
   have c0:=HSM.out.box.cell 0
   clear hso hss hgi hm hk hcb hbits hwa g1
   go_wp2_with fail
   rw [<- HWA.out]
   refine (cntS HSM.out hmm HV.out HCB.out).mono ?_
   rintro e w2 ⟨rfl,hM2⟩
   have HM2:=Aside0.mk hM2
   clear c0 hM2 r0 r1
   have c0:=HM2.out.box.cell 0
   have c1':=HM2.out.box.cell 1
   go_wp2_with fail
   have kf:=fitsS HM2.out.drew HSO.out HM.out HK.out HG.out
   have hwp:=HWP.out
   go_region_with (go_at_call 122;with_reducible (refine kf.mono ?_);rintro e w3 ⟨rfl,hM3⟩;have d0:=hM3.box.cell 0;have d1:=hM3.box.cell 1;have HM3:=Aside0.mk hM3;clear hM3)
   all_goals
    clear hwp c0 c1' kf
    go_wp2
    have hmN:m=((m.toNat:Nat):Int):=by omega
    have k1:=addS (N:=m.toNat) (k:=4) (a:=m) (b:=4) HM3.out.drew hmN rfl (by omega) (by decide) (by have:=HBL.out;omega)
    have HK2:=Aside0.mk (fun (W:World) (v1:Value) (hW:SMem w W v1 (bits++natBits m.toNat 4) wr.heap.size m A1 k c1)=>addS (N:=k) (k:=cb) (a:=(k:Int)) (b:=(cb:Int)) hW rfl rfl (by omega) (by omega) (by have:=HBL.out;rw [List.length_append,natBits_len];omega))
    clear hmN
    go_region_with (first | (go_at_call 66;with_reducible (refine k1.mono ?_);rintro e w4 ⟨v1,rfl,hM4⟩;have e0:=hM4.box.cell 0;have e1:=hM4.box.cell 1;have HM4:=Aside0.mk hM4;clear hM4) | (go_at_call 66;with_reducible (refine (HK2.out _ _ HM4.out).mono ?_);rintro e w5 ⟨v2,rfl,hM5⟩;have HM5:=Aside0.mk hM5;clear hM5))
    all_goals
     clear k1 d0 d1
     have g0:=HM5.out.box.cell 0
     have g1:=HM5.out.box.cell 1
     have kd:=dataS HM5.out HSO.out HM.out HK.out l1 HG.out (by have:=HBL.out;rw [List.length_append,List.length_append,natBits_len,natBits_len];omega)
     go_wp2_with (go_at_call 123;with_reducible (refine kd.mono ?_);rintro e w6 ⟨v3,rfl,hO6,hB6⟩;have HO6:=Aside0.mk hO6;have HB6:=Aside0.mk hB6;clear hO6 hB6)
     go_roundw
     case rel=>
      have ho:Aside0 (BOwn w6 w.heap.size v3 (sgStream ((l.take (i+1)).map toSg) v)):=⟨by rw [HTK.out,HNX.out];have:=HO6.out;simpa [List.append_assoc] using this⟩
      have hln:Aside0 ((sgStream ((l.take (i+1)).map toSg) v).length<=20000*(i+1)):=⟨by rw [HTK.out,List.length_append];have:=HL.out;have h3:=sgBits_len (toSg s) v HSO.out.short;omega⟩
      first
       | exact⟨i+1,by go_num,by omega,ho,HB6,hln⟩
       | ((repeat apply Exists.intro);exact⟨⟨i+1,by go_num,by omega,ho,HB6,hln⟩,rfl⟩)
     case measure=>(show ((n:Int)-((i:Int)+1)).toNat<((n:Int)-(i:Int)).toNat;omega)
  ·have:n=i:=by omega
   subst this
   have HTK:=Aside0.mk (show l.take n=l by rw [<- HN.out,List.take_length])
   go_wp2
   go_ret2
   exact⟨_,rfl,by have:=HO.out;rw [HTK.out] at this;exact this,HB.out⟩
end Go.Proofs.YtgccjgpdjkhpdaaGreat.B
namespace Go.Proofs.YtgccjgpdjkhpdaaGreat.B
open Go.RowKit Go.Proofs.YtgccjgpdjkhpdaaGreatW.PrintWords Go.Proofs.YtgccjgpdjkhpdaaGreatW.PrintLast Go.Proofs.YtgccjgpdjkhpdaaGreatW.PrintMore
set_option linter.unusedVariables false
set_option linter.unusedSimpArgs false
section
variable {P:Program} {ops:Array Oper} {rest:List Oper} {o:Oper} {a:Act} {Q:Exit->Act->World->Prop} {W W':World}
theorem wpList_allocA (hgd:o.guard=none)(t:TypeId)(ho:o.op=.alloc t)(v:Value)(hrun:(Instr.alloc t true (.tuple #[])).run P W=.ok v W')(k:wpList P ops Q rest (a.put o.dst v) W'):wpList P ops Q (o :: rest) a W:=by
 refine wpList_plain hgd fun K hK=>?_
 unfold Oper.wp
 have e:(execOp a.eval o).run P W=.ok (.value v) W':=by
  unfold execOp
  rw [ho]
  simp only [Sem.run_bind]
  show Result.andThen ((Instr.alloc t true (.tuple #[])).run P W) _=_
  rw [hrun]
  rfl
 rw [e]
 exact hK _ _ k
theorem wpList_buildA (hgd:o.guard=none)(t:TypeId)(parts:Array (Nat×Operand))(ho:o.op=.build t parts)
  (vals:Array (Nat×Value)) (hv:(parts.map fun p=>(p.1,a.eval p.2))=vals) (v:Value) (hrun:(Instr.build t vals).run P W=.ok v W') (k:wpList P ops Q rest (a.put o.dst v) W'):wpList P ops Q (o :: rest) a W:=by
 refine wpList_plain hgd fun K hK=>?_
 subst hv
 unfold Oper.wp
 have e:(execOp a.eval o).run P W=.ok (.value v) W':=by
  unfold execOp
  rw [ho]
  simp only [Sem.run_bind]
  show Result.andThen ((Instr.build t (parts.map fun p=>(p.1,a.eval p.2))).run P W) _=_
  rw [hrun]
  rfl
 rw [e]
 exact hK _ _ k
end
theorem results_cells2 {P:Program}{fn:Func}{p q:Tmp}{ty:TypeId}(h:fn.results=#[.cell p ty,.cell q ty])(tmps:Array Value)(w:World)(g g2:Nat)(t:TypeId)(cs cs2:Array Value)(m:Nat)(el:TypeId)
  (hp:tmps.getD p undef=.pointer (some ⟨g,0,none⟩)) (hq:tmps.getD q undef=.pointer (some ⟨g2,0,none⟩)) (hg:w.heap[g]? = some (.cells cs t (0,0))) (hg2:w.heap[g2]? = some (.cells cs2 t (0,0)))
  (hu:P.underlying ty=some (.array m el)) (hi:(P.info? ty).map (·.size)=some cs.size) (hi2:(P.info? ty).map (·.size)=some cs2.size) :
  (results fn tmps).run P w=.ok (.tuple #[.agg cs,.agg cs2]) w:=by
 have hp':tmps[p]?.getD undef=.pointer (some ⟨g,0,none⟩):=by simpa using hp
 have hq':tmps[q]?.getD undef=.pointer (some ⟨g2,0,none⟩):=by simpa using hq
 simp [results,h,hp',hq',asAddr,run_loadVar_row w g t ty cs (0,0) _ hg hu rfl hi,run_loadVar_row w g2 t ty cs2 (0,0) _ hg2 hu rfl hi2]
theorem setRow_far {w:World}{g k:Nat}(cs:Array Value)(h:k≠g):(w.setRow g cs).heap[k]? = w.heap[k]?:=by
 unfold World.setRow
 rw [Array.getElem?_modify]
 rw [if_neg (Ne.symm h)]
theorem setRow_below {B:Nat}{w0 w:World}{g:Nat}(cs:Array Value)(h:Below B w0 w)(hg:B<=g):Below B w0 (w.setRow g cs):=⟨h.os,h.tape,h.output,by rw [setRow_size];exact h.size,fun k hk=>(setRow_far cs (by omega)).trans (h.block k hk)⟩
def arr40 (l:List Int):Array Value:=(nums .i64 l).toArray
def z40:Array Value:=arr40 (List.replicate 40 0)
def vals40 (l:List Int):Array (Nat×Value):=(l.zipIdx.map fun p=>(p.2,Value.int .i64 p.1)).toArray
def parts40 (l:List Int):Array (Nat×Operand):=(l.zipIdx.map fun p=>(p.2,Operand.const (.int .i64 p.1))).toArray
theorem alloc167 (W:World):(Instr.alloc 167 true (.tuple #[])).run Tryz.prog W=.ok (.pointer (some ⟨W.heap.size,0,none⟩)) (W.alloc (.cells z40 167)):=by kernel_rfl
theorem info167:(Tryz.prog.info? 167).map (·.size)=some 40:=by kernel_rfl
def ecT0:List Int:=[10,16,26,18,24,16,18,22,22,26,30,22,22,24,24,28,28,26,26,26,26,28,28,28,28,28,28,28,28,28,28,28,28,28,28,28,28,28,28,28]
def blT0:List Int:=[1,1,1,2,2,4,4,4,5,5,5,8,9,9,10,10,11,13,14,16,17,17,18,20,21,23,25,26,28,29,31,33,35,37,38,40,43,45,47,49]
theorem ecT0_parts (a:Act):((parts40 ecT0).map fun p=>(p.1,a.eval p.2))=vals40 ecT0:=by kernel_rfl
theorem ecT0_run (W:World):(Instr.build 167 (vals40 ecT0)).run Tryz.prog W=.ok (.agg (arr40 ecT0)) W:=by kernel_rfl
theorem ecT0_size:(arr40 ecT0).size=40:=by kernel_rfl
theorem ecT0_one:(arr40 ecT0).all (·.oneCell')=true:=by kernel_rfl
theorem blT0_parts (a:Act):((parts40 blT0).map fun p=>(p.1,a.eval p.2))=vals40 blT0:=by kernel_rfl
theorem blT0_run (W:World):(Instr.build 167 (vals40 blT0)).run Tryz.prog W=.ok (.agg (arr40 blT0)) W:=by kernel_rfl
theorem blT0_size:(arr40 blT0).size=40:=by kernel_rfl
theorem blT0_one:(arr40 blT0).all (·.oneCell')=true:=by kernel_rfl
def ecT1:List Int:=[7,10,15,20,26,18,20,24,30,18,20,24,26,30,22,24,28,30,28,28,28,28,30,30,26,28,30,30,30,30,30,30,30,30,30,30,30,30,30,30]
def blT1:List Int:=[1,1,1,1,1,2,2,2,2,4,4,4,4,4,6,6,6,6,7,8,8,9,9,10,12,12,12,13,14,15,16,17,18,19,19,20,21,22,24,25]
theorem ecT1_parts (a:Act):((parts40 ecT1).map fun p=>(p.1,a.eval p.2))=vals40 ecT1:=by kernel_rfl
theorem ecT1_run (W:World):(Instr.build 167 (vals40 ecT1)).run Tryz.prog W=.ok (.agg (arr40 ecT1)) W:=by kernel_rfl
theorem ecT1_size:(arr40 ecT1).size=40:=by kernel_rfl
theorem ecT1_one:(arr40 ecT1).all (·.oneCell')=true:=by kernel_rfl
theorem blT1_parts (a:Act):((parts40 blT1).map fun p=>(p.1,a.eval p.2))=vals40 blT1:=by kernel_rfl
theorem blT1_run (W:World):(Instr.build 167 (vals40 blT1)).run Tryz.prog W=.ok (.agg (arr40 blT1)) W:=by kernel_rfl
theorem blT1_size:(arr40 blT1).size=40:=by kernel_rfl
theorem blT1_one:(arr40 blT1).all (·.oneCell')=true:=by kernel_rfl
def ecT2:List Int:=[17,28,22,16,22,28,26,26,24,28,24,28,22,24,24,30,28,28,26,28,30,24,30,30,30,30,30,30,30,30,30,30,30,30,30,30,30,30,30,30]
def blT2:List Int:=[1,1,2,4,4,4,5,6,8,8,11,11,16,16,18,16,19,21,25,25,25,34,30,32,35,37,40,42,45,48,51,54,57,60,63,66,70,74,77,81]
theorem ecT2_parts (a:Act):((parts40 ecT2).map fun p=>(p.1,a.eval p.2))=vals40 ecT2:=by kernel_rfl
theorem ecT2_run (W:World):(Instr.build 167 (vals40 ecT2)).run Tryz.prog W=.ok (.agg (arr40 ecT2)) W:=by kernel_rfl
theorem ecT2_size:(arr40 ecT2).size=40:=by kernel_rfl
theorem ecT2_one:(arr40 ecT2).all (·.oneCell')=true:=by kernel_rfl
theorem blT2_parts (a:Act):((parts40 blT2).map fun p=>(p.1,a.eval p.2))=vals40 blT2:=by kernel_rfl
theorem blT2_run (W:World):(Instr.build 167 (vals40 blT2)).run Tryz.prog W=.ok (.agg (arr40 blT2)) W:=by kernel_rfl
theorem blT2_size:(arr40 blT2).size=40:=by kernel_rfl
theorem blT2_one:(arr40 blT2).all (·.oneCell')=true:=by kernel_rfl
def ecT3:List Int:=[13,22,18,26,18,24,18,22,20,24,28,26,24,20,30,24,28,28,26,30,28,30,30,30,30,28,30,30,30,30,30,30,30,30,30,30,30,30,30,30]
def blT3:List Int:=[1,1,2,2,4,4,6,6,8,8,8,10,12,16,12,17,16,18,21,20,23,23,25,27,29,34,34,35,38,40,43,45,48,51,53,56,59,62,65,68]
theorem ecT3_parts (a:Act):((parts40 ecT3).map fun p=>(p.1,a.eval p.2))=vals40 ecT3:=by kernel_rfl
theorem ecT3_run (W:World):(Instr.build 167 (vals40 ecT3)).run Tryz.prog W=.ok (.agg (arr40 ecT3)) W:=by kernel_rfl
theorem ecT3_size:(arr40 ecT3).size=40:=by kernel_rfl
theorem ecT3_one:(arr40 ecT3).all (·.oneCell')=true:=by kernel_rfl
theorem blT3_parts (a:Act):((parts40 blT3).map fun p=>(p.1,a.eval p.2))=vals40 blT3:=by kernel_rfl
theorem blT3_run (W:World):(Instr.build 167 (vals40 blT3)).run Tryz.prog W=.ok (.agg (arr40 blT3)) W:=by kernel_rfl
theorem blT3_size:(arr40 blT3).size=40:=by kernel_rfl
theorem blT3_one:(arr40 blT3).all (·.oneCell')=true:=by kernel_rfl
set_option maxHeartbeats 4000000 in
set_option maxRecDepth 100000 in
theorem corr101_0 (w:World):Calls Tryz.prog 101 #[.int .i64 0] w fun e w'=>e=.returned (.tuple #[.agg (arr40 ecT0),.agg (arr40 blT0)])/\Below w.heap.size w w':=by
 go_enter Tryz.func101,Tryz.ntmps101
 go_wp2_with (first | ((with_reducible refine gate_dst (N:=2) rfl ?_);refine wpList_allocA rfl 167 rfl _ (alloc167 _) ?_) | ((with_reducible refine gate_dst (N:=3) rfl ?_);refine wpList_allocA rfl 167 rfl _ (alloc167 _) ?_) | ((with_reducible refine gate_dst (N:=11) rfl ?_);refine wpList_buildA rfl 167 (parts40 ecT0) rfl (vals40 ecT0) (ecT0_parts _) _ (ecT0_run _) ?_) | ((with_reducible refine gate_dst (N:=12) rfl ?_);refine wpList_buildA rfl 167 (parts40 blT0) rfl (vals40 blT0) (blT0_parts _) _ (blT0_run _) ?_) | (refine wpList_store_row rfl 167 (.tmp 2) (.tmp 11) rfl w.heap.size (arr40 ecT0) rfl rfl 167 z40 (heap_alloc2_old _ _ _) (by rw [ecT0_size];exact info167) (by rw [ecT0_size];rfl) ecT0_one ?_) | (refine wpList_store_row rfl 167 (.tmp 3) (.tmp 12) rfl (w.heap.size+1) (arr40 blT0) rfl rfl 167 z40 ((setRow_far _ (by omega)).trans (heap_alloc2_new _ _ _)) (by rw [blT0_size];exact info167) (by rw [blT0_size];rfl) blT0_one ?_))
 refine bodyPost_ret (results_cells2 (p:=2) (q:=3) (ty:=167) rfl _ _ w.heap.size (w.heap.size+1) 167 _ _ 40 3 rfl rfl ((setRow_far _ (by omega)).trans (setRow_heap _ _ _ _ 167 _ (heap_alloc2_old _ _ _))) (setRow_heap _ _ _ _ 167 _ ((setRow_far _ (by omega)).trans (heap_alloc2_new _ _ _))) Tryz.underlying167 (by rw [ecT0_size];exact info167) (by rw [blT0_size];exact info167)) rfl ⟨rfl,setRow_below _ (setRow_below _ (below_alloc (below_alloc (Below.refl _ _) _) _) (Nat.le_refl _)) (Nat.le_succ _)⟩
set_option maxHeartbeats 4000000 in
set_option maxRecDepth 100000 in
theorem corr101_1 (w:World):Calls Tryz.prog 101 #[.int .i64 1] w fun e w'=>e=.returned (.tuple #[.agg (arr40 ecT1),.agg (arr40 blT1)])/\Below w.heap.size w w':=by
 go_enter Tryz.func101,Tryz.ntmps101
 go_wp2_with (first | ((with_reducible refine gate_dst (N:=2) rfl ?_);refine wpList_allocA rfl 167 rfl _ (alloc167 _) ?_) | ((with_reducible refine gate_dst (N:=3) rfl ?_);refine wpList_allocA rfl 167 rfl _ (alloc167 _) ?_) | ((with_reducible refine gate_dst (N:=7) rfl ?_);refine wpList_buildA rfl 167 (parts40 ecT1) rfl (vals40 ecT1) (ecT1_parts _) _ (ecT1_run _) ?_) | ((with_reducible refine gate_dst (N:=8) rfl ?_);refine wpList_buildA rfl 167 (parts40 blT1) rfl (vals40 blT1) (blT1_parts _) _ (blT1_run _) ?_) | (refine wpList_store_row rfl 167 (.tmp 2) (.tmp 7) rfl w.heap.size (arr40 ecT1) rfl rfl 167 z40 (heap_alloc2_old _ _ _) (by rw [ecT1_size];exact info167) (by rw [ecT1_size];rfl) ecT1_one ?_) | (refine wpList_store_row rfl 167 (.tmp 3) (.tmp 8) rfl (w.heap.size+1) (arr40 blT1) rfl rfl 167 z40 ((setRow_far _ (by omega)).trans (heap_alloc2_new _ _ _)) (by rw [blT1_size];exact info167) (by rw [blT1_size];rfl) blT1_one ?_))
 refine bodyPost_ret (results_cells2 (p:=2) (q:=3) (ty:=167) rfl _ _ w.heap.size (w.heap.size+1) 167 _ _ 40 3 rfl rfl ((setRow_far _ (by omega)).trans (setRow_heap _ _ _ _ 167 _ (heap_alloc2_old _ _ _))) (setRow_heap _ _ _ _ 167 _ ((setRow_far _ (by omega)).trans (heap_alloc2_new _ _ _))) Tryz.underlying167 (by rw [ecT1_size];exact info167) (by rw [blT1_size];exact info167)) rfl ⟨rfl,setRow_below _ (setRow_below _ (below_alloc (below_alloc (Below.refl _ _) _) _) (Nat.le_refl _)) (Nat.le_succ _)⟩
set_option maxHeartbeats 4000000 in
set_option maxRecDepth 100000 in
theorem corr101_2 (w:World):Calls Tryz.prog 101 #[.int .i64 2] w fun e w'=>e=.returned (.tuple #[.agg (arr40 ecT2),.agg (arr40 blT2)])/\Below w.heap.size w w':=by
 go_enter Tryz.func101,Tryz.ntmps101
 go_wp2_with (first | ((with_reducible refine gate_dst (N:=2) rfl ?_);refine wpList_allocA rfl 167 rfl _ (alloc167 _) ?_) | ((with_reducible refine gate_dst (N:=3) rfl ?_);refine wpList_allocA rfl 167 rfl _ (alloc167 _) ?_) | ((with_reducible refine gate_dst (N:=17) rfl ?_);refine wpList_buildA rfl 167 (parts40 ecT2) rfl (vals40 ecT2) (ecT2_parts _) _ (ecT2_run _) ?_) | ((with_reducible refine gate_dst (N:=18) rfl ?_);refine wpList_buildA rfl 167 (parts40 blT2) rfl (vals40 blT2) (blT2_parts _) _ (blT2_run _) ?_) | (refine wpList_store_row rfl 167 (.tmp 2) (.tmp 17) rfl w.heap.size (arr40 ecT2) rfl rfl 167 z40 (heap_alloc2_old _ _ _) (by rw [ecT2_size];exact info167) (by rw [ecT2_size];rfl) ecT2_one ?_) | (refine wpList_store_row rfl 167 (.tmp 3) (.tmp 18) rfl (w.heap.size+1) (arr40 blT2) rfl rfl 167 z40 ((setRow_far _ (by omega)).trans (heap_alloc2_new _ _ _)) (by rw [blT2_size];exact info167) (by rw [blT2_size];rfl) blT2_one ?_))
 refine bodyPost_ret (results_cells2 (p:=2) (q:=3) (ty:=167) rfl _ _ w.heap.size (w.heap.size+1) 167 _ _ 40 3 rfl rfl ((setRow_far _ (by omega)).trans (setRow_heap _ _ _ _ 167 _ (heap_alloc2_old _ _ _))) (setRow_heap _ _ _ _ 167 _ ((setRow_far _ (by omega)).trans (heap_alloc2_new _ _ _))) Tryz.underlying167 (by rw [ecT2_size];exact info167) (by rw [blT2_size];exact info167)) rfl ⟨rfl,setRow_below _ (setRow_below _ (below_alloc (below_alloc (Below.refl _ _) _) _) (Nat.le_refl _)) (Nat.le_succ _)⟩
set_option maxHeartbeats 4000000 in
set_option maxRecDepth 100000 in
theorem corr101_3 (w:World):Calls Tryz.prog 101 #[.int .i64 3] w fun e w'=>e=.returned (.tuple #[.agg (arr40 ecT3),.agg (arr40 blT3)])/\Below w.heap.size w w':=by
 go_enter Tryz.func101,Tryz.ntmps101
 go_wp2_with (first | ((with_reducible refine gate_dst (N:=2) rfl ?_);refine wpList_allocA rfl 167 rfl _ (alloc167 _) ?_) | ((with_reducible refine gate_dst (N:=3) rfl ?_);refine wpList_allocA rfl 167 rfl _ (alloc167 _) ?_) | ((with_reducible refine gate_dst (N:=15) rfl ?_);refine wpList_buildA rfl 167 (parts40 ecT3) rfl (vals40 ecT3) (ecT3_parts _) _ (ecT3_run _) ?_) | ((with_reducible refine gate_dst (N:=16) rfl ?_);refine wpList_buildA rfl 167 (parts40 blT3) rfl (vals40 blT3) (blT3_parts _) _ (blT3_run _) ?_) | (refine wpList_store_row rfl 167 (.tmp 2) (.tmp 15) rfl w.heap.size (arr40 ecT3) rfl rfl 167 z40 (heap_alloc2_old _ _ _) (by rw [ecT3_size];exact info167) (by rw [ecT3_size];rfl) ecT3_one ?_) | (refine wpList_store_row rfl 167 (.tmp 3) (.tmp 16) rfl (w.heap.size+1) (arr40 blT3) rfl rfl 167 z40 ((setRow_far _ (by omega)).trans (heap_alloc2_new _ _ _)) (by rw [blT3_size];exact info167) (by rw [blT3_size];rfl) blT3_one ?_))
 refine bodyPost_ret (results_cells2 (p:=2) (q:=3) (ty:=167) rfl _ _ w.heap.size (w.heap.size+1) 167 _ _ 40 3 rfl rfl ((setRow_far _ (by omega)).trans (setRow_heap _ _ _ _ 167 _ (heap_alloc2_old _ _ _))) (setRow_heap _ _ _ _ 167 _ ((setRow_far _ (by omega)).trans (heap_alloc2_new _ _ _))) Tryz.underlying167 (by rw [ecT3_size];exact info167) (by rw [blT3_size];exact info167)) rfl ⟨rfl,setRow_below _ (setRow_below _ (below_alloc (below_alloc (Below.refl _ _) _) _) (Nat.le_refl _)) (Nat.le_succ _)⟩
end Go.Proofs.YtgccjgpdjkhpdaaGreat.B
