import Derived.Laws.OwnMore
import Derived.Deep.RegionLaw
import Derived.Lib.Hide
import Derived.Test.YtgccjgpdjkhpdaaGreatVErrors24
import Derived.Test.YtgccjgpdjkhpdaaGreatVErrors25
open Go.Proofs.YtgccjgpdjkhpdaaGreatW.PrintWords.Aside0 renaming mk→Mw
open Nat renaming le_trans→Mx,le_refl→MD,mul_one→ME
open List renaming length_append→My,length_cons→Mz,length_nil→MA,drop_eq_getElem_cons→MC,getD_eq_getElem?_getD→MF,getElem?_eq_getElem→MG,length_set→MH,take_succ_eq_append_getElem→MI
open Int renaming toNat_natCast→MB
/-! Own texts of this claim, part 23. -/
namespace Go.Proofs.YtgccjgpdjkhpdaaGreat.B
open Go.RowKit Go.Proofs.YtgccjgpdjkhpdaaGreatW.PrintWords Go.Proofs.YtgccjgpdjkhpdaaGreatW.PrintLast Go.Proofs.YtgccjgpdjkhpdaaGreatW.PrintMore
set_option linter.unusedVariables false
set_option linter.unusedSimpArgs false
theorem yI (x:Int)(l:List Int)(h:x≠37):bj (x :: l)=x :: bj l:=by
 cases l with
 | nil=>simp [bj,h]
 | cons y l=>rw [bj,if_neg h]
theorem yJ (l:List Int):bj (37 :: 37 :: l)=37 :: bj l:=by rw [bj,if_pos rfl,if_pos rfl]
theorem yK (y:Int)(l:List Int)(h:y≠37):bj (37 :: y :: l)=29 :: bj (y :: l):=by rw [bj,if_pos rfl,if_neg h]
theorem FL:bj [37]=[29]:=by rw [bj,if_pos rfl]
theorem FM (l:List Int):(bj l).length<=l.length:=by
 induction l using bj.induct with
 | case1=>simp [bj]
 | case2 x=>simp [bj]
 | case3 l ih=>rw [yJ];simp;omega
 | case4 y l h ih=>rw [yK y l h];simp at ih ⊢;omega
 | case5 x y l h ih=>rw [yI x _ h];simp at ih ⊢;omega
theorem yL (zs:List Int)(i:Nat)(hi:i<zs.length)(h:zs.getD i 0≠37):zs.take (i+1)++bj (zs.drop (i+1))=zs.take i++bj (zs.drop i):=by
 have hg:zs.getD i 0=zs[i]:=by rw [MF,MG hi];rfl
 rw [hg] at h;rw [MC hi,yI _ _ h,MI hi,List.append_assoc];rfl
def eR (zs:List Int)(i:Nat):List Int:=zs.take i++zs.drop (i+1)
theorem tG (zs:List Int)(i:Nat)(hi:i<zs.length):(eR zs i).length=i+(zs.length-(i+1)):=by simp [eR];omega
theorem yM (zs:List Int)(i:Nat)(hi:i+1<zs.length)(h:zs.getD i 0=37)(h2:zs.getD (i+1) 0=37):(eR zs i).take (i+1)++bj ((eR zs i).drop (i+1))=zs.take i++bj (zs.drop i):=by
 have hg:zs.getD i 0=zs[i]:=by rw [MF,MG (by omega)];rfl
 have hg2:zs.getD (i+1) 0=zs[i+1]:=by rw [MF,MG hi];rfl
 rw [hg] at h;rw [hg2] at h2;have e:eR zs i=zs.take i++37 :: zs.drop (i+2):=by unfold eR;rw [MC hi,h2]
 have hl:(zs.take i).length=i:=by simp;omega
 rw [e,MC (show i<zs.length by omega),MC hi,h,h2,yJ];have e1:(zs.take i++37 :: zs.drop (i+2)).take (i+1)=zs.take i++[37]:=by
  rw [List.take_append,hl,show i+1-i=1 by omega,List.take_of_length_le (by omega)];rfl
 have e2:(zs.take i++37 :: zs.drop (i+2)).drop (i+1)=zs.drop (i+2):=by
  rw [List.drop_append,hl,show i+1-i=1 by omega,List.drop_of_length_le (by omega)];rfl
 rw [e1,e2];simp
theorem rn (zs:List Int)(i:Nat)(hi:i<zs.length)(h:zs.getD i 0=37)(h2:zs.length<=i+1\/zs.getD (i+1) 0≠37):(zs.set i 29).take (i+1)++bj ((zs.set i 29).drop (i+1))=zs.take i++bj (zs.drop i):=by
 have hg:zs.getD i 0=zs[i]:=by rw [MF,MG hi];rfl
 rw [hg] at h;have e1:(zs.set i 29).take (i+1)=zs.take i++[29]:=by
  rw [MI (by simpa using hi),List.take_set_of_le (MD i)];simp
 have e2:(zs.set i 29).drop (i+1)=zs.drop (i+1):=List.drop_set_of_lt (by omega);rw [e1,e2,MC hi,h];have e3:bj (37 :: zs.drop (i+1))=29 :: bj (zs.drop (i+1)):=by
  rcases Nat.lt_or_ge (i+1) zs.length with h3 | h3
  rotate_left
  ·rw [List.drop_of_length_le h3,FL];rfl
  rcases h2 with h2 | h2
  ·omega
  have hg2:zs.getD (i+1) 0=zs[i+1]:=by rw [MF,MG h3];rfl
  rw [hg2] at h2;rw [MC h3,yK _ _ h2]
 rw [e3];simp
def o6 (xs:List Value):Nat->List Value->List Value
 | _,[]=>xs
 | o,v :: r=>o6 (xs.set o v) (o+1) r
theorem FO:∀ (vs:List Value) (o:Nat) (xs:List Value),o+vs.length<=xs.length->o6 xs o vs=xs.take o++vs++xs.drop (o+vs.length):=by
 intro vs
 induction vs with
 | nil=>intro o xs h;simp [o6]
 | cons v r ih=>
  intro o xs h;rw [Mz] at h;rw [o6,ih (o+1) _ (by simp;omega),Mz]
  have e1:(xs.set o v).take (o+1)=xs.take o++[v]:=by
   rw [MI (by simp;omega),List.take_set_of_le (MD o)]
   simp
  have e2:(xs.set o v).drop (o+1+r.length)=xs.drop (o+1+r.length):=List.drop_set_of_lt (by omega);rw [e1,e2,show o+(r.length+1)=o+1+r.length by omega];simp
theorem FP {base g n cap:Nat}{e:TypeId}:∀ (vs:List Value) (o:Nat) (w:World) (xs:List Value),w.ownsRow base e 1 (.slice (some ⟨g,0,none⟩) n cap) n xs->
  (w.setCells g o vs).ownsRow base e 1 (.slice (some ⟨g,0,none⟩) n cap) n (o6 xs o vs)/\w.grownBy (w.setCells g o vs) (some g):=by
 intro vs
 induction vs with
 | nil=>intro o w xs h;exact⟨h,World.grownBy.refl w _⟩
 | cons v r ih=>
  intro o w xs h;obtain⟨h1,h2⟩:=h.stored o v;obtain⟨h3,h4⟩:=ih (o+1) _ _ h1;exact⟨h3,h2.trans h4⟩
theorem FQ {w:World}{base g n cap m:Nat}{e:TypeId}{xs:List Value}(h:w.ownsRow base e 1 (.slice (some ⟨g,0,none⟩) n cap) n xs)(hm:m<=n):w.ownsRow base e 1 (.slice (some ⟨g,0,none⟩) m cap) m (xs.take m):=by
 refine⟨by have:=h.1;simp;omega,.inr ?_⟩
 rcases h.2 with⟨h',_⟩ | ⟨g',cap',cur,h',hb,hh,hnc,hcm,hcs,ht⟩
 ·cases h'
 simp only [Value.slice.injEq,Option.some.injEq,Addr.mk.injEq,and_true,true_and] at h';obtain⟨rfl,rfl⟩:=h';refine⟨g,cap,cur,rfl,hb,hh,by omega,hcm,hcs,?_⟩;rw [<- ht,List.take_take,ME,ME,Nat.min_eq_left hm]
def eG (zs:List Int)(i:Nat):List Value:=ac .u8 (zs.drop (i+1))
theorem kT (zs:List Int)(i:Nat):(eG zs i).length=zs.length-(i+1):=by simp [eG,ac]
theorem yN {w:World}{base g n cap i:Nat}{zs:List Int}(h:w.ownsRow base 5 1 (.slice (some ⟨g,0,none⟩) n cap) n (ac .u8 zs))(hn:zs.length=n)(hi:i<n) :
  (w.setCells g (0+i) (eG zs i)).ownsRow base 5 1 (.slice (some ⟨g,0,none⟩) (i+(n-(i+1))) cap) (eR zs i).length (ac .u8 (eR zs i))/\w.grownBy (w.setCells g (0+i) (eG zs i)) (some g):=by
 obtain⟨h1,h2⟩:=FP (eG zs i) (0+i) w (ac .u8 zs) h;refine⟨?_,h2⟩;have h3:=FQ h1 (show i+(n-(i+1))<=n by omega);have hnl:(ac .u8 zs).length=n:=by rw [su,hn]
 rw [FO _ _ _ (by rw [kT,hnl];omega),kT,hn] at h3
 have e:((ac .u8 zs).take (0+i)++eG zs i++(ac .u8 zs).drop (0+i+(n-(i+1)))).take (i+(n-(i+1)))=ac .u8 (eR zs i):=by
  have hl:((ac .u8 zs).take (0+i)++eG zs i).length=i+(n-(i+1)):=by rw [My,kT,List.length_take,hnl,hn];omega
  rw [List.take_append_of_le_length (by omega),List.take_of_length_le (by omega)];simp [ac,eG,eR,List.map_take]
 rw [e] at h3;rw [tG zs i (by omega),hn];exact h3
theorem yO {w:World}{base g n cap i:Nat}{zs:List Int}(h:w.ownsRow base 5 1 (.slice (some ⟨g,0,none⟩) n cap) n (ac .u8 zs))(hn:zs.length=n)(hi:i<n) :
  ∃ A:Addr,(if cap=i+1 then some (⟨g,0,none⟩:Addr) else some ⟨g,i+1,none⟩)=some A/\∀ j u,(eG zs i)[j]? = some u->w.cell? (A.add j)=some u:=by
 have hcap:n<=cap:=by
  rcases h.2 with⟨h',_⟩ | ⟨g',cap',cur,h',hb,hh,hnc,_⟩
  ·cases h'
  simp only [Value.slice.injEq,Option.some.injEq,Addr.mk.injEq,and_true,true_and] at h';omega
 by_cases hc:cap=i+1
 ·refine⟨⟨g,0,none⟩,by simp [hc],fun j u hu=>?_⟩;have h0:(eG zs i).length=0:=by rw [kT];omega
  rw [List.length_eq_zero_iff.1 h0] at hu;simp at hu
 refine⟨⟨g,i+1,none⟩,by simp [hc],fun j u hu=>?_⟩;have hj:j<n-(i+1):=by
  have:=(List.getElem?_eq_some_iff.1 hu).1
  rwa [kT,hn] at this
 have:=h.cells (g:=g) rfl (i+1+j) u (by rw [<- hu];simp [eG,ac,List.getElem?_drop])
 rw [Addr.add_lit] at this ⊢;simpa using this
theorem sG {w:World}{base g n cap m:Nat}{e:TypeId}{xs:List Value}(h:w.ownsRow base e 1 (.slice (some ⟨g,0,none⟩) n cap) m xs):n<=cap/\cap<=9223372036854775807/\base<=g:=by
 rcases h.2 with⟨h',_⟩ | ⟨g',cap',cur,h',hb,hh,hnc,hcm,_⟩
 ·cases h'
 simp only [Value.slice.injEq,Option.some.injEq,Addr.mk.injEq,and_true,true_and] at h';obtain⟨rfl,rfl,rfl⟩:=h';exact⟨hnc,by simpa [maxLen] using hcm,hb⟩
theorem oy {w:World}{base n:Nat}{e:TypeId}{v:Value}{xs:List Value}(h:w.ownsRow base e 1 v n xs):w.drew.ownsRow base e 1 v n xs:=ei h fun _ _=>rfl
theorem yP {w y:World}{o:Option Nat}(h:w.drew.grownBy y o):w.grownBy y o:=⟨h.os,h.tape,h.output,h.size,h.block⟩
def fR:Value->Int
 | .slice _ n _=>n
 | _=>0
theorem yQ (bs:List Nat):∀ (cnt pos:Nat) (acc ys:List Int) (p:Nat),eF bs pos cnt acc=some (ys,p)->pos<=8*bs.length->ys.length+pos<=acc.length+p/\p<=8*bs.length/\pos<=p:=by
 intro cnt
 induction cnt using Nat.strongRecOn with
 | ind cnt ih=>
  intro pos acc ys p h hp;rw [eF] at h
  split at h
  ·split at h
   rotate_left
   ·cases h
   rename_i h3 hr
   have:=ih (cnt-3) (by omega) _ _ _ _ h hr.1;simp only [My,Mz,MA] at this;omega
  split at h
  ·split at h
   rotate_left
   ·cases h
   rename_i hr
   injection h with h;injection h with h1 h2;subst h1;subst h2;simp only [My,Mz,MA];omega
  split at h
  rotate_left
  ·injection h with h;injection h with h1 h2;subst h1;subst h2;omega
  split at h
  rotate_left
  ·cases h
  rename_i hr
  injection h with h;injection h with h1 h2;subst h1;subst h2;simp only [My,Mz,MA];omega
theorem yR (bs:List Nat):∀ (cnt pos:Nat) (acc ys:List Int) (p:Nat),dy bs pos cnt acc=some (ys,p)->pos<=8*bs.length->ys.length+pos<=acc.length+p/\p<=8*bs.length/\acc.length<=ys.length/\pos<=p:=by
 intro cnt
 induction cnt using Nat.strongRecOn with
 | ind cnt ih=>
  intro pos acc ys p h hp;rw [dy] at h
  split at h
  ·split at h
   rotate_left
   ·cases h
   rename_i h3 hr
   have:=ih (cnt-2) (by omega) _ _ _ _ h hr.1;simp only [My,Mz,MA] at this;omega
  split at h
  rotate_left
  ·injection h with h;injection h with h1 h2;subst h1;subst h2;omega
  split at h
  rotate_left
  ·cases h
  rename_i hr
  injection h with h;injection h with h1 h2;subst h1;subst h2;simp only [My,Mz,MA];omega
theorem bQ (m v:Nat):1<=aw m v/\aw m v<=16:=by
 unfold aw
 split
 ·split
  ·omega
  split<;>omega
 split
 rotate_left
 ·split<;>omega
 split
 ·omega
 split<;>omega
structure PS.Fits (st:PS)(L:Nat):Prop where
 pos:st.pos<=8*L
 out:st.out.length<=st.pos
 segs:st.segs.length<=st.pos
theorem yS (fc:Bool)(out ys:List Int)(h:out.length<=ys.length):(kS fc out ys).length<=ys.length:=by
 unfold kS
 split
 rotate_left
 ·omega
 have:=FM (ys.drop out.length);rw [My];rw [List.length_drop] at this;omega
theorem FR (bs:List Nat):∀ (cnt pos:Nat) (acc ys:List Int) (p:Nat),dy bs pos cnt acc=some (ys,p)->ys.take acc.length=acc:=by
 intro cnt
 induction cnt using Nat.strongRecOn with
 | ind cnt ih=>
  intro pos acc ys p h;rw [dy] at h
  split at h
  rotate_left
  ·split at h
   rotate_left
   ·injection h with h;injection h with h1 h2;subst h1;exact List.take_length
   split at h
   rotate_left
   ·cases h
   injection h with h;injection h with h1 h2;subst h1;exact List.take_left
  split at h
  rotate_left
  ·cases h
  have:=ih (cnt-2) (by omega) _ _ _ _ h;have h2:=congrArg (List.take acc.length) this;rw [List.take_take,Nat.min_eq_left (by simp),List.append_assoc,List.take_left] at h2;exact h2
theorem Rd.inv {bs:List Nat}{v:Nat}{st:PS}{R:Option PS}(h:Rd bs v st R)(F:st.Fits bs.length) :
  (8*bs.length<st.pos+4/\R=some st)\/
  (st.pos+4<=8*bs.length/\aq bs st.pos 4=0/\R=some { st with pos:=st.pos+4 })\/
  (st.pos+4<=8*bs.length/\aq bs st.pos 4=5/\∃ st',st'={ st with pos:=st.pos+4,fc:=true }/\Rd bs v st' R/\st'.Fits bs.length)\/
  (st.pos+20<=8*bs.length/\aq bs st.pos 4=3/\∃ st',st'={ st with pos:=st.pos+20,sq:=aq bs (st.pos+4) 8,par:=aq bs (st.pos+12) 8 }/\Rd bs v st' R/\st'.Fits bs.length)\/
  (∃ m,st.pos+4<=8*bs.length/\aq bs st.pos 4=m/\(m=1\/m=2\/m=4)/\8*bs.length<st.pos+4+aw m v/\R=none)\/
  (aq bs st.pos 4=1/\st.pos+4+aw 1 v<=8*bs.length/\∃ ys p,eF bs (st.pos+4+aw 1 v) (aq bs (st.pos+4) (aw 1 v)) st.out=some (ys,p)/\∃ st',st'={ st with pos:=p,out:=ys }/\Rd bs v st' R/\st'.Fits bs.length/\st.pos<p)\/
  (aq bs st.pos 4=1/\st.pos+4+aw 1 v<=8*bs.length/\eF bs (st.pos+4+aw 1 v) (aq bs (st.pos+4) (aw 1 v)) st.out=none/\R=none)\/
  (aq bs st.pos 4=2/\st.pos+4+aw 2 v<=8*bs.length/\∃ ys p,dy bs (st.pos+4+aw 2 v) (aq bs (st.pos+4) (aw 2 v)) st.out=some (ys,p)/\∃ st',st'={ st with pos:=p,out:=kS st.fc st.out ys }/\Rd bs v st' R/\st'.Fits bs.length/\st.pos<p)\/
  (aq bs st.pos 4=2/\st.pos+4+aw 2 v<=8*bs.length/\dy bs (st.pos+4+aw 2 v) (aq bs (st.pos+4) (aw 2 v)) st.out=none/\R=none)\/
  (aq bs st.pos 4=4/\st.pos+4+aw 4 v<=8*bs.length/\∃ n,aq bs (st.pos+4) (aw 4 v)=n/\st.pos+4+aw 4 v+8*n<=8*bs.length/\
   ∃ st',st'={ st with pos:=st.pos+4+aw 4 v+8*n,out:=st.out++dV bs (st.pos+4+aw 4 v) n,segs:=st.segs++[dV bs (st.pos+4+aw 4 v) n] }/\Rd bs v st' R/\st'.Fits bs.length)\/
  (aq bs st.pos 4=4/\st.pos+4+aw 4 v<=8*bs.length/\∃ n,aq bs (st.pos+4) (aw 4 v)=n/\8*bs.length<st.pos+4+aw 4 v+8*n/\R=none):=by
 obtain⟨f1,f2,f3⟩:=F;have c1:=bQ 1 v;have c2:=bQ 2 v;have c4:=bQ 4 v;cases h with
 | done _ h1 h2=>exact .inl ⟨h2,rfl⟩
 | stop _ h1 h2=>exact .inr (.inl ⟨h1,h2,rfl⟩)
 | fnc _ _ h1 h2 h3=>exact .inr (.inr (.inl ⟨h1,h2,_,rfl,h3,h1,by show st.out.length<=st.pos+4;omega,by show st.segs.length<=st.pos+4;omega⟩))
 | part _ _ h1 h2 h3=>exact .inr (.inr (.inr (.inl ⟨h1,h2,_,rfl,h3,h1,by show st.out.length<=st.pos+20;omega,by show st.segs.length<=st.pos+20;omega⟩)))
 | short _ m h1 h2 h3 h4=>exact .inr (.inr (.inr (.inr (.inl ⟨m,h1,h2,h3,h4,rfl⟩))))
 | num _ ys p _ h1 h2 h3 h4=>
  have hb:=yQ bs _ _ _ _ _ h3 h2;refine .inr (.inr (.inr (.inr (.inr (.inl ⟨h1,h2,ys,p,h3,_,rfl,h4,⟨hb.2.1,?_,?_⟩,?_⟩)))))
  ·show ys.length<=p;omega
  ·show st.segs.length<=p;omega
  omega
 | numBad _ h1 h2 h3=>exact .inr (.inr (.inr (.inr (.inr (.inr (.inl ⟨h1,h2,h3,rfl⟩))))))
 | al _ ys p _ h1 h2 h3 h4=>
  have hb:=yR bs _ _ _ _ _ h3 h2;have hl:=yS st.fc st.out ys hb.2.2.1;refine .inr (.inr (.inr (.inr (.inr (.inr (.inr (.inl ⟨h1,h2,ys,p,h3,_,rfl,h4,⟨hb.2.1,?_,?_⟩,?_⟩)))))))
  ·show (kS st.fc st.out ys).length<=p;omega
  ·show st.segs.length<=p;omega
  omega
 | alBad _ h1 h2 h3=>exact .inr (.inr (.inr (.inr (.inr (.inr (.inr (.inr (.inl ⟨h1,h2,h3,rfl⟩))))))))
 | byte _ n _ h1 h2 h3 h4 h5=>
  refine .inr (.inr (.inr (.inr (.inr (.inr (.inr (.inr (.inr (.inl ⟨h1,h2,n,h3,h4,_,rfl,h5,h4,?_,?_⟩)))))))))
  ·show (st.out++dV _ _ _).length<=st.pos+4+aw 4 v+8*n;rw [My];simp only [dV,List.length_map,List.length_range];omega
  show (st.segs++[_]).length<=st.pos+4+aw 4 v+8*n;rw [My,List.length_singleton];omega
 | byteBad _ n h1 h2 h3 h4=>exact .inr (.inr (.inr (.inr (.inr (.inr (.inr (.inr (.inr (.inr ⟨h1,h2,n,h3,h4,rfl⟩)))))))))
def FS:ByteArray:=⟨#[48,49,50,51,52,53,54,55,56,57,65,66,67,68,69,70,71,72,73,74,75,76,77,78,79,80,81,82,83,84,85,86,87,88,89,90,32,36,37,42,43,45,46,47,58]⟩
theorem FT:∀ n:Fin 45,((FS[n.val]'(n.isLt)).toNat:Int)=fQ n.val:=by decide +kernel
theorem nE (w:World)(n:Nat)(h:n<45):Calls Tryz.prog 145 #[.int .i64 (n:Int)] w fun e w'=>e=.returned (.tuple #[.int .u8 (fQ n),.nilIface])/\w=w':=by
 have k:=FT ⟨n,h⟩;have K:=Mw k;clear k
 go_enter Tryz.func145,Tryz.ntmps145
 go_wp2
 go_ret2
 refine⟨?_,rfl⟩;rw [<- K.out];rfl
theorem ro (w:World)(n:Nat)(h:45<=n)(h2:n<=10000):Calls Tryz.prog 145 #[.int .i64 (n:Int)] w fun e w'=>(∃ x,e=.returned (.tuple #[.int .u8 0,.iface 208 x]))/\Below w.heap.size w w':=by
 go_enter Tryz.func145,Tryz.ntmps145
 go_wp2_with (go_at_call 89;refine (pt _ _).mono ?_;rintro e w' ⟨⟨y0,rfl⟩,hb'⟩)
 go_ret2
 exact⟨⟨_,rfl⟩,((Below.refl w.heap.size w).alloc (MD _) _).trans (hb'.mono (by simp))⟩
set_option maxHeartbeats 4000000 in
set_option maxRecDepth 8000 in
theorem yT (w0 w:World)(base s g pos cnt:Nat)(bs:List Nat)(v:Value)(xs:List Int)(hS:ca w s g bs pos)(hg0:g<base)(hbs:base<=s)(hO:w.ownsRow base 5 1 v xs.length (ac .u8 xs))(hB:Below base w0 w)(hbase:base<=w.heap.size)
  (hx:ab 8 bs) (hl:bs.length<=100000) (hcnt:cnt<=100000) (hxl:xs.length<=1000000) (hp:pos<=8*bs.length) :
  Calls Tryz.prog 114 #[.pointer (some ⟨s,0,none⟩),v,.int .i64 (cnt:Int),.bool true] w (dh w0 w v base s g bs ((dy bs pos cnt xs).map fun r=>(r.1.take xs.length++bj (r.1.drop xs.length),r.2))):=by
 obtain⟨R,hR⟩:∃ R,dy bs pos cnt xs=R:=⟨_,rfl⟩;rw [hR];obtain⟨A0,c0,hv⟩:=eh hO;obtain⟨N0,hN0⟩:∃ N0,xs.length=N0:=⟨_,rfl⟩;rw [hN0] at hv ⊢;subst hv;have HGW:=Mw (cT.refl w s (.slice A0 N0 c0));have HS:=Mw hS;have HO:=Mw hO;have HB:=Mw hB;have HX:=Mw hx;have HR:=Mw hR;have HP:=Mw hp;have HLN:=Mw hl;have HXL:=Mw hxl;have HNY:=Mw (show N0<=xs.length by omega);clear hS hO hB hx hR hp hl hxl hN0
 go_enter Tryz.func114,Tryz.ntmps114
 go_wp2
 go_loopw [1,2] (fun vr vc wr=>∃ (c p:Nat) (ys:List Int),vc=.int .i64 (c:Int)/\c<=cnt/\Aside0 (wr.ownsRow base 5 1 vr ys.length (ac .u8 ys))/\Aside0 (ca wr s g bs p)/\Aside0 (Below base w0 wr)/\Aside0 (base<=wr.heap.size)/\
  Aside0 (dy bs p c ys=R)/\Aside0 (p<=8*bs.length)/\Aside0 (ys.length+c<=1100000)/\Aside0 (N0<=ys.length)/\Aside0 (cT w wr s (.slice A0 N0 c0) vr)) (fun _ vc _=>(intOf vc).toNat)
 case atStart=>exact⟨cnt,pos,xs,rfl,MD _,HO,HS,HB,⟨hbase⟩,HR,HP,⟨by have:=HXL.out;omega⟩,HNY,HGW⟩
 case round=>
  clear HO HS HB HR HP HGW HNY;obtain⟨c,p,ys,rfl,hcc,HO,HS,HB,HBS,HR,HP,HLEN,HNY,HGW⟩:=hrel;by_cases h3:2<=c
  ·have hr3:=HR.out;rw [dy,if_pos h3] at hr3;by_cases hroom:p+11<=8*bs.length;rotate_left
   ·rw [if_neg (fun h=>hroom h.1)] at hr3;have HR3:=Mw hr3;have kb:=lS wr s g p 11 bs HS.out HP.out (by omega) HLN.out (by decide) (by decide);clear hr3 hroom
    go_wp2_with (first | (go_at_call 107;refine kb.mono ?_;rintro e w' ⟨⟨x0,rfl⟩,hb'⟩;have nB_:=Mw (HB.out.trans (hb'.mono HBS.out));have nZ_:=Mw (Mx HBS.out hb'.size);clear HO HS HB HBS;have HB:=nB_;have HBS:=nZ_;clear nB_ nZ_ hb') | (go_at_call 87;refine (jd _ 216 x0).mono ?_;rintro e w' ⟨⟨y0,rfl⟩,hb'⟩;have nB_:=Mw (HB.out.trans (hb'.mono HBS.out));clear HB;have HB:=nB_;clear nB_ hb'))
    go_ret2
    exact dh.bad (by rw [<- HR3.out];rfl) HB.out
   have kr:=kQ wr s g p 11 bs HS.out hroom HLN.out (by decide) (by decide) HX.out;obtain⟨n,hnn⟩:∃ n,aq bs p 11=n:=⟨_,rfl⟩;rw [hnn] at kr hr3;have hn24:n<2048:=by rw [<- hnn];exact gy _ _ _
   obtain⟨q,hqq⟩:∃ q,n/45=q:=⟨_,rfl⟩;obtain⟨r,hrr⟩:∃ r,n%45=r:=⟨_,rfl⟩;have hqi:(n:Int)/45=(q:Int):=by omega
   have hri:(n:Int)%45=(r:Int):=by omega
   have hq100:q<100:=by omega
   have hr:r<45:=by omega
   rw [hqq,hrr] at hr3;by_cases hq:q<45;rotate_left
   ·rw [if_neg (fun h=>hq h.2)] at hr3;have HR3:=Mw hr3;clear hr3 hroom hnn hqq hrr;replace hq:45<=q:=by omega
    go_wp2_with (first | (go_at_call 107;refine kr.mono ?_;rintro e w' ⟨rfl,hS',hT'⟩;have nG_:=Mw (HGW.out.turn hT');have nO_:=Mw (gW HO.out HS.out.1 hT');have nB_:=Mw (HB.out.trans (hT'.below hbs));have nZ_:=Mw (show base<=w'.heap.size by rw [hT'.size];exact HBS.out);clear HO HS HB HBS HGW;have HO:=nO_;have HS:=Mw hS';have HB:=nB_;have HBS:=nZ_;have HGW:=nG_;clear nO_ nB_ nZ_ nG_ hS' hT') | (go_at_call 145;refine (ro _ q hq (by omega)).mono ?_;rintro e w' ⟨⟨x0,rfl⟩,hb'⟩;have nB_:=Mw (HB.out.trans (hb'.mono HBS.out));have nZ_:=Mw (Mx HBS.out hb'.size);clear HB HBS;have HB:=nB_;have HBS:=nZ_;clear nB_ nZ_ hb') | (go_at_call 87;refine (jd _ 208 x0).mono ?_;rintro e w' ⟨⟨y0,rfl⟩,hb'⟩;have nB_:=Mw (HB.out.trans (hb'.mono HBS.out));clear HB;have HB:=nB_;clear nB_ hb'))
    go_ret2
    exact dh.bad (by rw [<- HR3.out];rfl) HB.out
   rw [if_pos ⟨hroom,hq⟩] at hr3;have HR3:=Mw hr3;have HRM:=Mw hroom;clear hr3 hroom hnn hqq hrr
   go_wp2_with (first | (go_at_call 107;refine kr.mono ?_;rintro e w' ⟨rfl,hS',hT'⟩;have nG_:=Mw (HGW.out.turn hT');have nO_:=Mw (gW HO.out HS.out.1 hT');have nB_:=Mw (HB.out.trans (hT'.below hbs));have nZ_:=Mw (show base<=w'.heap.size by rw [hT'.size];exact HBS.out);clear HO HS HB HBS HGW;have HO:=nO_;have HS:=Mw hS';have HB:=nB_;have HBS:=nZ_;have HGW:=nG_;clear nO_ nB_ nZ_ nG_ hS' hT') | (go_at_call 145;first | (with_reducible refine (nE _ q hq).mono ?_;rintro e w' ⟨rfl,rfl⟩) | (with_reducible refine (nE _ r hr).mono ?_;rintro e w' ⟨rfl,rfl⟩)) | ((with_reducible refine bD (b:=.append) (xs:=#[.tmp 43,.tmp 45]) rfl ?_);at_builtin;refine eI (w0:=w0) base rfl (.tmp 43) (.tmp 45) 26 5 .u8 1 rfl Tryz.underlying26 F.cS (by decide) _ _ _ rfl rfl HO.out HB.out HBS.out ?aL ?_;(case aL=>(have:=HLEN.out;(try simp only [My,Mz,MA]);omega));intro v_ w1 ho hb hg hat;have nG_:=Mw (HGW.out.app hg hat);have nS_:=Mw (HS.out.grown (base:=base) HO.out hg0 hg);have nB_:=Mw (Mx HBS.out hg.size);have n0_:=Mw ho;have n1_:=Mw hb;clear HO HB HS HBS HGW;have HO:=n0_;have HB:=n1_;have HS:=nS_;have HBS:=nB_;have HGW:=nG_;clear n0_ n1_ nS_ nB_ nG_ ho hb hg hat) | ((with_reducible refine bD (b:=.append) (xs:=#[.tmp 53,.tmp 55]) rfl ?_);at_builtin;refine eI (w0:=w0) base rfl (.tmp 53) (.tmp 55) 26 5 .u8 1 rfl Tryz.underlying26 F.cS (by decide) _ _ _ rfl rfl HO.out HB.out HBS.out ?aL ?_;(case aL=>(have:=HLEN.out;(try simp only [My,Mz,MA]);omega));intro v_ w1 ho hb hg hat;have nG_:=Mw (HGW.out.app hg hat);have nS_:=Mw (HS.out.grown (base:=base) HO.out hg0 hg);have nB_:=Mw (Mx HBS.out hg.size);have n0_:=Mw ho;have n1_:=Mw hb;clear HO HB HS HBS HGW;have HO:=n0_;have HB:=n1_;have HS:=nS_;have HBS:=nB_;have HGW:=nG_;clear n0_ n1_ nS_ nB_ nG_ ho hb hg hat))
   clear hqi hri
   go_roundw
   case rel=>exact⟨c-2,p+11,_,by go_num,by omega,HO,HS,HB,HBS,HR3,HRM,⟨by have:=HLEN.out;simp only [My,Mz,MA];omega⟩,⟨by have:=HNY.out;(try simp only [My,Mz,MA]);omega⟩,HGW⟩
   case measure=>simp [intOf];omega
  by_cases h1:c=1;rotate_left
  ·obtain rfl:c=0:=by omega
   have hr3:=HR.out;rw [dy,if_neg (by decide),if_neg (by decide)] at hr3;have HR3:=Mw hr3;clear h3 h1 hr3
   go_wp2
   obtain⟨YS,hYS⟩:∃ YS,YS=ys:=⟨_,rfl⟩;rw [<- hYS] at HO;obtain⟨A1,cc1,hv1⟩:=eh HO.out;obtain⟨n1,hn1⟩:∃ n1,YS.length=n1:=⟨_,rfl⟩;obtain⟨Z,hZ⟩:∃ Z,YS.take N0++bj (YS.drop N0)=Z:=⟨_,rfl⟩;rw [hn1] at hv1;subst hv1;have HN1:=Mw hn1;have HZ1:=Mw hZ;have hle1:N0<=n1:=by rw [<- hn1,hYS];have:=HNY.out;(try simp only [My,Mz,MA]);omega
   have hz1:n1<=1200000:=by rw [<- hn1,hYS];have:=HLEN.out;(try simp only [My,Mz,MA]);omega
   have HRR:=Mw (show R=some (YS,p) by rw [hYS];exact HR3.out.symm)
   have hO1:=HO.out;rw [hn1] at hO1;have HO1:=Mw hO1;have HZR:=Mw (show R.map (fun r=>(r.1.take N0++bj (r.1.drop N0),r.2))=some (Z,p) by rw [HRR.out,<- hZ];rfl)
   clear hn1 hO1 HO HLEN hYS hZ HRR HR3
   go_loopw [1,17] (fun vr vi wt=>∃ (i n:Nat) (zs:List Int) (A:Option Addr) (cc:Nat),vi=.int .i64 (i:Int)/\vr=.slice A n cc/\i<=n/\n<=1200000/\Aside0 (zs.length=n)/\Aside0 (wt.ownsRow base 5 1 (.slice A n cc) n (ac .u8 zs))/\Aside0 (ca wt s g bs p)/\Aside0 (Below base w0 wt)/\Aside0 (base<=wt.heap.size)/\Aside0 (cT w wt s (.slice A0 N0 c0) (.slice A n cc))/\Aside0 (zs.take i++bj (zs.drop i)=Z)) (fun vr vi _=>(fR vr-intOf vi).toNat)
   case atStart=>exact⟨N0,n1,_,A1,cc1,rfl,rfl,hle1,hz1,HN1,HO1,HS,HB,HBS,HGW,HZ1⟩
   case round=>
    clear HO1 HS HB HBS HGW HZ1 HN1 hz1 hle1;obtain⟨i,n,zs,A,cc,rfl,rfl,hin,hnb,HN,HO,HS,HB,HBS,HGW,HZ⟩:=hrel;by_cases hi:i<n;rotate_left
    ·have:i=n:=by omega
     subst this;have HZ2:=Mw (show zs=Z by have:=HZ.out;rw [<- HN.out,List.take_length,List.drop_length] at this;simpa [bj] using this)
     go_wp2
     go_ret2
     exact dh.fine HZR.out (by rw [<- HZ2.out,HN.out];exact HO.out) HS.out HB.out HGW.out
    obtain⟨b,cc',hf,-,-⟩:=HO.out.form (show 0<n by omega);simp only [Value.slice.injEq,true_and] at hf;obtain⟨rfl,rfl⟩:=hf;obtain⟨x,hx⟩:∃ x,rd zs i=x:=⟨_,rfl⟩;have hc:=mU HO.out (i:Int) (by omega) (by omega);rw [hx,MB] at hc;obtain⟨r0,f0⟩:=hc;have hxd:zs.getD i 0=x:=by rw [<- hx];unfold rd;rw [MB]
    have HXD:=Mw hxd;clear hx hxd;by_cases hx37:x=37;rotate_left
    ·have HZ2:=Mw (show zs.take (i+1)++bj (zs.drop (i+1))=Z by rw [yL zs i (by rw [HN.out];exact hi) (by rw [HXD.out];exact hx37)];exact HZ.out)
     go_wp2
     go_roundw
     case rel=>exact⟨i+1,n,zs,_,cc,by go_num,rfl,by omega,hnb,HN,HO,HS,HB,HBS,HGW,HZ2⟩
     case measure=>simp [intOf,fR];omega
    subst hx37;by_cases hi1:i+1<n;rotate_left
    ·have hdec:decide ((i:Int)<(n:Int)-1)=false:=decide_eq_false (by omega);have HZ2:=Mw (show (zs.set i 29).take (i+1)++bj ((zs.set i 29).drop (i+1))=Z by rw [rn zs i (by rw [HN.out];exact hi) HXD.out (.inl (by rw [HN.out];omega))];exact HZ.out)
     obtain⟨ho,hg⟩:=pM HO.out (i:Int) 29;rw [MB] at ho hg;have HO2:=Mw ho;have HG2:=Mw hg;clear ho hg
     go_wp2
     go_roundw
     case rel=>
      have hG:=HGW.out.app (x:=wr) (v2:=.slice (some ⟨b,0,none⟩) n cc) HG2.out (.inl rfl);have hS:=HS.out.grown (base:=base) HO.out hg0 HG2.out;exact⟨i+1,n,zs.set i 29,_,cc,by go_num,rfl,by omega,hnb,⟨by rw [MH];exact HN.out⟩,HO2,⟨hS⟩,⟨HB.out.grown HG2.out HBS.out (cF HO.out)⟩,⟨Mx HBS.out HG2.out.size⟩,⟨hG⟩,HZ2⟩
     case measure=>simp [intOf,fR];omega
    obtain⟨y,hy⟩:∃ y,rd zs (i+1:Nat)=y:=⟨_,rfl⟩;have hc:=mU HO.out ((i+1:Nat):Int) (by omega) (by omega);rw [hy,MB] at hc;have hyd:zs.getD (i+1) 0=y:=by rw [<- hy];unfold rd;rw [MB]
    have HYD:=Mw hyd;have r1:=hc.1;have hdec:decide ((i:Int)<(n:Int)-1)=true:=decide_eq_true (by omega);clear hy hyd hc;by_cases hy37:y=37;rotate_left
    ·have HZ2:=Mw (show (zs.set i 29).take (i+1)++bj ((zs.set i 29).drop (i+1))=Z by rw [rn zs i (by rw [HN.out];exact hi) HXD.out (.inr (by rw [HYD.out];exact hy37))];exact HZ.out)
     obtain⟨ho,hg⟩:=pM HO.out (i:Int) 29;rw [MB] at ho hg;have HO2:=Mw ho;have HG2:=Mw hg;clear ho hg
     go_wp2
     go_roundw
     case rel=>
      have hG:=HGW.out.app (x:=wr) (v2:=.slice (some ⟨b,0,none⟩) n cc) HG2.out (.inl rfl);have hS:=HS.out.grown (base:=base) HO.out hg0 HG2.out;exact⟨i+1,n,zs.set i 29,_,cc,by go_num,rfl,by omega,hnb,⟨by rw [MH];exact HN.out⟩,HO2,⟨hS⟩,⟨HB.out.grown HG2.out HBS.out (cF HO.out)⟩,⟨Mx HBS.out HG2.out.size⟩,⟨hG⟩,HZ2⟩
     case measure=>simp [intOf,fR];omega
    subst hy37;have HZ2:=Mw (show (eR zs i).take (i+1)++bj ((eR zs i).drop (i+1))=Z by rw [yM zs i (by rw [HN.out];exact hi1) HXD.out HYD.out];exact HZ.out)
    obtain⟨ho,hg⟩:=yN (oy HO.out) HN.out hi;have HL2:=Mw (show (eR zs i).length=i+(n-(i+1)) by rw [tG zs i (by rw [HN.out];exact hi),HN.out])
    have HO2:=Mw ho;have HG2:=Mw (yP hg);obtain⟨Ab,hAb,hnews⟩:=yO (oy HO.out) HN.out hi;obtain⟨i0,hi0,hz0,hz1,hz2⟩:=info_parts F.cS;have s1:=Lib.hid (show (eG zs i).length=(n-(i+1))*1 by rw [kT,HN.out,ME]);have s2:=Lib.hid (show ∀ u∈eG zs i,u.oneCell'=true by
     intro u hu;unfold eG ac at hu;obtain⟨x,_,rfl⟩:=List.mem_map.1 hu;rfl)
    have s3:=Lib.hid (show ∀ j,j<(eG zs i).length->(wr.drew.cell? ⟨b,0+i*1+j,none⟩).isSome=true/\wr.drew.frozen? ⟨b,0+i*1+j,none⟩=false by
     intro j hj;rw [kT,HN.out] at hj;have hq:=mU HO.out ((i+j:Nat):Int) (by omega) (by omega);rw [MB] at hq;rw [ME,Nat.zero_add];exact⟨by show (wr.cell? _).isSome=true;rw [hq.1];rfl,hq.2⟩)
    have s4:=Lib.hid hnews;obtain⟨hnc,hcm,-⟩:=sG HO.out;have hic:i<=cc:=by omega
    have hwr:IntKind.i64.wrap ((i:Int)+1)=(i:Int)+1:=by rw [IntKind.wrap_i64];omega
    have hp0:(0:Int)<=(i:Int)+1:=by omega
    have hp1:(i:Int)+1<=(n:Int):=by omega
    have hp2:((i:Int)+1).toNat=i+1:=by omega
    clear hnews
    go_wp2
    clear r0 f0 r1
    go_region_law (refine step_append_room rfl (.tmp 113) (.tmp 117) 26 rfl 5 i0 1 Tryz.underlying26 hi0 hz1 b 0 i cc (by simp [Act.eval,Act.put]) Ab (n-(i+1)) (cc-(i+1)) (eG zs i) (by simp [Act.eval,Act.put]) s1.out s4.out s2.out (by omega) s3.out ?_)
    go_wp2
    go_roundw
    case rel=>
     have hG:=HGW.out.app (x:=wr) (v2:=.slice (some ⟨b,0,none⟩) (i+(n-(i+1))) cc) HG2.out (.inl rfl);have hS:=HS.out.grown (base:=base) HO.out hg0 HG2.out
     first | exact⟨i+1,i+(n-(i+1)),eR zs i,_,cc,by go_num,rfl,by omega,by omega,HL2,⟨by have:=HO2.out;rw [HL2.out] at this;simpa using this⟩,⟨by simpa using hS⟩,⟨by have:=HB.out.grown HG2.out HBS.out (cF HO.out);simpa using this⟩,⟨by have:=Mx HBS.out HG2.out.size;simpa using this⟩,⟨by simpa using hG⟩,HZ2⟩ | ((repeat apply Exists.intro);exact⟨⟨i+1,i+(n-(i+1)),eR zs i,_,cc,by go_num,rfl,by omega,by omega,HL2,⟨by have:=HO2.out;rw [HL2.out] at this;simpa using this⟩,⟨by simpa using hS⟩,⟨by have:=HB.out.grown HG2.out HBS.out (cF HO.out);simpa using this⟩,⟨by have:=Mx HBS.out HG2.out.size;simpa using this⟩,⟨by simpa using hG⟩,HZ2⟩,rfl⟩)
    case measure=>simp [intOf,fR];omega
  subst h1;have hr3:=HR.out;rw [dy,if_neg (by decide),if_pos rfl] at hr3;clear h3;by_cases hroom:p+6<=8*bs.length;rotate_left
  ·rw [if_neg (fun h=>hroom h.1)] at hr3;have HR3:=Mw hr3;have kb:=lS wr s g p 6 bs HS.out HP.out (by omega) HLN.out (by decide) (by decide);clear hr3 hroom
   go_wp2_with (first | (go_at_call 107;refine kb.mono ?_;rintro e w' ⟨⟨x0,rfl⟩,hb'⟩;have nB_:=Mw (HB.out.trans (hb'.mono HBS.out));have nZ_:=Mw (Mx HBS.out hb'.size);clear HO HS HB HBS;have HB:=nB_;have HBS:=nZ_;clear nB_ nZ_ hb') | (go_at_call 87;refine (jd _ 216 x0).mono ?_;rintro e w' ⟨⟨y0,rfl⟩,hb'⟩;have nB_:=Mw (HB.out.trans (hb'.mono HBS.out));clear HB;have HB:=nB_;clear nB_ hb'))
   go_ret2
   exact dh.bad (by rw [<- HR3.out];rfl) HB.out
  have kr:=kQ wr s g p 6 bs HS.out hroom HLN.out (by decide) (by decide) HX.out;obtain⟨n,hnn⟩:∃ n,aq bs p 6=n:=⟨_,rfl⟩;rw [hnn] at kr hr3;have hn24:n<64:=by rw [<- hnn];exact gy _ _ _
  by_cases hn:n<45;rotate_left
  ·rw [if_neg (fun h=>hn h.2)] at hr3;have HR3:=Mw hr3;clear hr3 hroom hnn;replace hn:45<=n:=by omega
   go_wp2_with (first | (go_at_call 107;refine kr.mono ?_;rintro e w' ⟨rfl,hS',hT'⟩;have nG_:=Mw (HGW.out.turn hT');have nO_:=Mw (gW HO.out HS.out.1 hT');have nB_:=Mw (HB.out.trans (hT'.below hbs));have nZ_:=Mw (show base<=w'.heap.size by rw [hT'.size];exact HBS.out);clear HO HS HB HBS HGW;have HO:=nO_;have HS:=Mw hS';have HB:=nB_;have HBS:=nZ_;have HGW:=nG_;clear nO_ nB_ nZ_ nG_ hS' hT') | (go_at_call 145;refine (ro _ n hn (by omega)).mono ?_;rintro e w' ⟨⟨x0,rfl⟩,hb'⟩;have nB_:=Mw (HB.out.trans (hb'.mono HBS.out));have nZ_:=Mw (Mx HBS.out hb'.size);clear HB HBS;have HB:=nB_;have HBS:=nZ_;clear nB_ nZ_ hb') | (go_at_call 87;refine (jd _ 208 x0).mono ?_;rintro e w' ⟨⟨y0,rfl⟩,hb'⟩;have nB_:=Mw (HB.out.trans (hb'.mono HBS.out));clear HB;have HB:=nB_;clear nB_ hb'))
   go_ret2
   exact dh.bad (by rw [<- HR3.out];rfl) HB.out
  rw [if_pos ⟨hroom,hn⟩] at hr3;have HR3:=Mw hr3;clear hr3 hroom hnn
  go_wp2_with (first | (go_at_call 107;refine kr.mono ?_;rintro e w' ⟨rfl,hS',hT'⟩;have nG_:=Mw (HGW.out.turn hT');have nO_:=Mw (gW HO.out HS.out.1 hT');have nB_:=Mw (HB.out.trans (hT'.below hbs));have nZ_:=Mw (show base<=w'.heap.size by rw [hT'.size];exact HBS.out);clear HO HS HB HBS HGW;have HO:=nO_;have HS:=Mw hS';have HB:=nB_;have HBS:=nZ_;have HGW:=nG_;clear nO_ nB_ nZ_ nG_ hS' hT') | (go_at_call 145;refine (nE _ n hn).mono ?_;rintro e w' ⟨rfl,rfl⟩) | ((with_reducible refine bD (b:=.append) (xs:=#[.tmp 81,.tmp 83]) rfl ?_);at_builtin;refine eI (w0:=w0) base rfl (.tmp 81) (.tmp 83) 26 5 .u8 1 rfl Tryz.underlying26 F.cS (by decide) _ _ _ rfl rfl HO.out HB.out HBS.out ?aL ?_;(case aL=>(have:=HLEN.out;(try simp only [My,Mz,MA]);omega));intro v_ w1 ho hb hg hat;have nG_:=Mw (HGW.out.app hg hat);have nS_:=Mw (HS.out.grown (base:=base) HO.out hg0 hg);have nB_:=Mw (Mx HBS.out hg.size);have n0_:=Mw ho;have n1_:=Mw hb;clear HO HB HS HBS HGW;have HO:=n0_;have HB:=n1_;have HS:=nS_;have HBS:=nB_;have HGW:=nG_;clear n0_ n1_ nS_ nB_ nG_ ho hb hg hat))
  obtain⟨YS,hYS⟩:∃ YS,YS=(ys++[fQ n]):=⟨_,rfl⟩;rw [<- hYS] at HO;obtain⟨A1,cc1,hv1⟩:=eh HO.out;obtain⟨n1,hn1⟩:∃ n1,YS.length=n1:=⟨_,rfl⟩;obtain⟨Z,hZ⟩:∃ Z,YS.take N0++bj (YS.drop N0)=Z:=⟨_,rfl⟩;rw [hn1] at hv1;subst hv1;have HN1:=Mw hn1;have HZ1:=Mw hZ;have hle1:N0<=n1:=by rw [<- hn1,hYS];have:=HNY.out;(try simp only [My,Mz,MA]);omega
  have hz1:n1<=1200000:=by rw [<- hn1,hYS];have:=HLEN.out;(try simp only [My,Mz,MA]);omega
  have HRR:=Mw (show R=some (YS,(p+6)) by rw [hYS];exact HR3.out.symm)
  have hO1:=HO.out;rw [hn1] at hO1;have HO1:=Mw hO1;have HZR:=Mw (show R.map (fun r=>(r.1.take N0++bj (r.1.drop N0),r.2))=some (Z,(p+6)) by rw [HRR.out,<- hZ];rfl)
  clear hn1 hO1 HO HLEN hYS hZ HRR HR3
  go_loopw [1,17] (fun vr vi wt=>∃ (i n:Nat) (zs:List Int) (A:Option Addr) (cc:Nat),vi=.int .i64 (i:Int)/\vr=.slice A n cc/\i<=n/\n<=1200000/\Aside0 (zs.length=n)/\Aside0 (wt.ownsRow base 5 1 (.slice A n cc) n (ac .u8 zs))/\Aside0 (ca wt s g bs (p+6))/\Aside0 (Below base w0 wt)/\Aside0 (base<=wt.heap.size)/\Aside0 (cT w wt s (.slice A0 N0 c0) (.slice A n cc))/\Aside0 (zs.take i++bj (zs.drop i)=Z)) (fun vr vi _=>(fR vr-intOf vi).toNat)
  case atStart=>exact⟨N0,n1,_,A1,cc1,rfl,rfl,hle1,hz1,HN1,HO1,HS,HB,HBS,HGW,HZ1⟩
  case round=>
   clear HO1 HS HB HBS HGW HZ1 HN1 hz1 hle1;obtain⟨i,n,zs,A,cc,rfl,rfl,hin,hnb,HN,HO,HS,HB,HBS,HGW,HZ⟩:=hrel;by_cases hi:i<n;rotate_left
   ·have:i=n:=by omega
    subst this;have HZ2:=Mw (show zs=Z by have:=HZ.out;rw [<- HN.out,List.take_length,List.drop_length] at this;simpa [bj] using this)
    go_wp2
    go_ret2
    exact dh.fine HZR.out (by rw [<- HZ2.out,HN.out];exact HO.out) HS.out HB.out HGW.out
   obtain⟨b,cc',hf,-,-⟩:=HO.out.form (show 0<n by omega);simp only [Value.slice.injEq,true_and] at hf;obtain⟨rfl,rfl⟩:=hf;obtain⟨x,hx⟩:∃ x,rd zs i=x:=⟨_,rfl⟩;have hc:=mU HO.out (i:Int) (by omega) (by omega);rw [hx,MB] at hc;obtain⟨r0,f0⟩:=hc;have hxd:zs.getD i 0=x:=by rw [<- hx];unfold rd;rw [MB]
   have HXD:=Mw hxd;clear hx hxd;by_cases hx37:x=37;rotate_left
   ·have HZ2:=Mw (show zs.take (i+1)++bj (zs.drop (i+1))=Z by rw [yL zs i (by rw [HN.out];exact hi) (by rw [HXD.out];exact hx37)];exact HZ.out)
    go_wp2
    go_roundw
    case rel=>exact⟨i+1,n,zs,_,cc,by go_num,rfl,by omega,hnb,HN,HO,HS,HB,HBS,HGW,HZ2⟩
    case measure=>simp [intOf,fR];omega
   subst hx37;by_cases hi1:i+1<n;rotate_left
   ·have hdec:decide ((i:Int)<(n:Int)-1)=false:=decide_eq_false (by omega);have HZ2:=Mw (show (zs.set i 29).take (i+1)++bj ((zs.set i 29).drop (i+1))=Z by rw [rn zs i (by rw [HN.out];exact hi) HXD.out (.inl (by rw [HN.out];omega))];exact HZ.out)
    obtain⟨ho,hg⟩:=pM HO.out (i:Int) 29;rw [MB] at ho hg;have HO2:=Mw ho;have HG2:=Mw hg;clear ho hg
    go_wp2
    go_roundw
    case rel=>
     have hG:=HGW.out.app (x:=wr) (v2:=.slice (some ⟨b,0,none⟩) n cc) HG2.out (.inl rfl);have hS:=HS.out.grown (base:=base) HO.out hg0 HG2.out;exact⟨i+1,n,zs.set i 29,_,cc,by go_num,rfl,by omega,hnb,⟨by rw [MH];exact HN.out⟩,HO2,⟨hS⟩,⟨HB.out.grown HG2.out HBS.out (cF HO.out)⟩,⟨Mx HBS.out HG2.out.size⟩,⟨hG⟩,HZ2⟩
    case measure=>simp [intOf,fR];omega
   obtain⟨y,hy⟩:∃ y,rd zs (i+1:Nat)=y:=⟨_,rfl⟩;have hc:=mU HO.out ((i+1:Nat):Int) (by omega) (by omega);rw [hy,MB] at hc;have hyd:zs.getD (i+1) 0=y:=by rw [<- hy];unfold rd;rw [MB]
   have HYD:=Mw hyd;have r1:=hc.1;have hdec:decide ((i:Int)<(n:Int)-1)=true:=decide_eq_true (by omega);clear hy hyd hc;by_cases hy37:y=37;rotate_left
   ·have HZ2:=Mw (show (zs.set i 29).take (i+1)++bj ((zs.set i 29).drop (i+1))=Z by rw [rn zs i (by rw [HN.out];exact hi) HXD.out (.inr (by rw [HYD.out];exact hy37))];exact HZ.out)
    obtain⟨ho,hg⟩:=pM HO.out (i:Int) 29;rw [MB] at ho hg;have HO2:=Mw ho;have HG2:=Mw hg;clear ho hg
    go_wp2
    go_roundw
    case rel=>
     have hG:=HGW.out.app (x:=wr) (v2:=.slice (some ⟨b,0,none⟩) n cc) HG2.out (.inl rfl);have hS:=HS.out.grown (base:=base) HO.out hg0 HG2.out;exact⟨i+1,n,zs.set i 29,_,cc,by go_num,rfl,by omega,hnb,⟨by rw [MH];exact HN.out⟩,HO2,⟨hS⟩,⟨HB.out.grown HG2.out HBS.out (cF HO.out)⟩,⟨Mx HBS.out HG2.out.size⟩,⟨hG⟩,HZ2⟩
    case measure=>simp [intOf,fR];omega
   subst hy37;have HZ2:=Mw (show (eR zs i).take (i+1)++bj ((eR zs i).drop (i+1))=Z by rw [yM zs i (by rw [HN.out];exact hi1) HXD.out HYD.out];exact HZ.out)
   obtain⟨ho,hg⟩:=yN (oy HO.out) HN.out hi;have HL2:=Mw (show (eR zs i).length=i+(n-(i+1)) by rw [tG zs i (by rw [HN.out];exact hi),HN.out])
   have HO2:=Mw ho;have HG2:=Mw (yP hg);obtain⟨Ab,hAb,hnews⟩:=yO (oy HO.out) HN.out hi;obtain⟨i0,hi0,hz0,hz1,hz2⟩:=info_parts F.cS;have s1:=Lib.hid (show (eG zs i).length=(n-(i+1))*1 by rw [kT,HN.out,ME]);have s2:=Lib.hid (show ∀ u∈eG zs i,u.oneCell'=true by
    intro u hu;unfold eG ac at hu;obtain⟨x,_,rfl⟩:=List.mem_map.1 hu;rfl)
   have s3:=Lib.hid (show ∀ j,j<(eG zs i).length->(wr.drew.cell? ⟨b,0+i*1+j,none⟩).isSome=true/\wr.drew.frozen? ⟨b,0+i*1+j,none⟩=false by
    intro j hj;rw [kT,HN.out] at hj;have hq:=mU HO.out ((i+j:Nat):Int) (by omega) (by omega);rw [MB] at hq;rw [ME,Nat.zero_add];exact⟨by show (wr.cell? _).isSome=true;rw [hq.1];rfl,hq.2⟩)
   have s4:=Lib.hid hnews;obtain⟨hnc,hcm,-⟩:=sG HO.out;have hic:i<=cc:=by omega
   have hwr:IntKind.i64.wrap ((i:Int)+1)=(i:Int)+1:=by rw [IntKind.wrap_i64];omega
   have hp0:(0:Int)<=(i:Int)+1:=by omega
   have hp1:(i:Int)+1<=(n:Int):=by omega
   have hp2:((i:Int)+1).toNat=i+1:=by omega
   clear hnews
   go_wp2
   clear r0 f0 r1
   go_region_law (refine step_append_room rfl (.tmp 113) (.tmp 117) 26 rfl 5 i0 1 Tryz.underlying26 hi0 hz1 b 0 i cc (by simp [Act.eval,Act.put]) Ab (n-(i+1)) (cc-(i+1)) (eG zs i) (by simp [Act.eval,Act.put]) s1.out s4.out s2.out (by omega) s3.out ?_)
   go_wp2
   go_roundw
   case rel=>
    have hG:=HGW.out.app (x:=wr) (v2:=.slice (some ⟨b,0,none⟩) (i+(n-(i+1))) cc) HG2.out (.inl rfl);have hS:=HS.out.grown (base:=base) HO.out hg0 HG2.out
    first | exact⟨i+1,i+(n-(i+1)),eR zs i,_,cc,by go_num,rfl,by omega,by omega,HL2,⟨by have:=HO2.out;rw [HL2.out] at this;simpa using this⟩,⟨by simpa using hS⟩,⟨by have:=HB.out.grown HG2.out HBS.out (cF HO.out);simpa using this⟩,⟨by have:=Mx HBS.out HG2.out.size;simpa using this⟩,⟨by simpa using hG⟩,HZ2⟩ | ((repeat apply Exists.intro);exact⟨⟨i+1,i+(n-(i+1)),eR zs i,_,cc,by go_num,rfl,by omega,by omega,HL2,⟨by have:=HO2.out;rw [HL2.out] at this;simpa using this⟩,⟨by simpa using hS⟩,⟨by have:=HB.out.grown HG2.out HBS.out (cF HO.out);simpa using this⟩,⟨by have:=Mx HBS.out HG2.out.size;simpa using this⟩,⟨by simpa using hG⟩,HZ2⟩,rfl⟩)
   case measure=>simp [intOf,fR];omega
set_option maxHeartbeats 4000000 in
set_option maxRecDepth 8000 in
theorem yU (w0 w:World)(base s g pos cnt:Nat)(bs:List Nat)(v:Value)(xs:List Int)(hS:ca w s g bs pos)(hg0:g<base)(hbs:base<=s)(hO:w.ownsRow base 5 1 v xs.length (ac .u8 xs))(hB:Below base w0 w)(hbase:base<=w.heap.size)
  (hx:ab 8 bs) (hl:bs.length<=100000) (hcnt:cnt<=100000) (hxl:xs.length<=1000000) (hp:pos<=8*bs.length) :
  Calls Tryz.prog 114 #[.pointer (some ⟨s,0,none⟩),v,.int .i64 (cnt:Int),.bool false] w (dh w0 w v base s g bs (dy bs pos cnt xs)):=by
 obtain⟨R,hR⟩:∃ R,dy bs pos cnt xs=R:=⟨_,rfl⟩;rw [hR];obtain⟨A0,c0,hv⟩:=eh hO;obtain⟨N0,hN0⟩:∃ N0,xs.length=N0:=⟨_,rfl⟩;rw [hN0] at hv;subst hv;have HGW:=Mw (cT.refl w s (.slice A0 N0 c0));have HS:=Mw hS;have HO:=Mw hO;have HB:=Mw hB;have HX:=Mw hx;have HR:=Mw hR;have HP:=Mw hp;have HLN:=Mw hl;have HXL:=Mw hxl;clear hS hO hB hx hR hp hl hxl hN0
 go_enter Tryz.func114,Tryz.ntmps114
 go_wp2
 go_loopw [1,2] (fun vr vc wr=>∃ (c p:Nat) (ys:List Int),vc=.int .i64 (c:Int)/\c<=cnt/\Aside0 (wr.ownsRow base 5 1 vr ys.length (ac .u8 ys))/\Aside0 (ca wr s g bs p)/\Aside0 (Below base w0 wr)/\Aside0 (base<=wr.heap.size)/\
  Aside0 (dy bs p c ys=R)/\Aside0 (p<=8*bs.length)/\Aside0 (ys.length+c<=1100000)/\Aside0 (cT w wr s (.slice A0 N0 c0) vr)) (fun _ vc _=>(intOf vc).toNat)
 case atStart=>exact⟨cnt,pos,xs,rfl,MD _,HO,HS,HB,⟨hbase⟩,HR,HP,⟨by have:=HXL.out;omega⟩,HGW⟩
 case round=>
  clear HO HS HB HR HP HGW;obtain⟨c,p,ys,rfl,hcc,HO,HS,HB,HBS,HR,HP,HLEN,HGW⟩:=hrel;by_cases h3:2<=c;rotate_left
  ·by_cases h1:c=1;rotate_left
   ·obtain rfl:c=0:=by omega
    have hr3:=HR.out;rw [dy,if_neg (by decide),if_neg (by decide)] at hr3;have HR3:=Mw hr3;clear h3 h1 hr3
    go_wp2
    go_ret2
    exact dh.fine HR3.out.symm HO.out HS.out HB.out HGW.out
   subst h1;have hr3:=HR.out;rw [dy,if_neg (by decide),if_pos rfl] at hr3;clear h3;by_cases hroom:p+6<=8*bs.length;rotate_left
   ·rw [if_neg (fun h=>hroom h.1)] at hr3;have HR3:=Mw hr3;have kb:=lS wr s g p 6 bs HS.out HP.out (by omega) HLN.out (by decide) (by decide);clear hr3 hroom
    go_wp2_with (first | (go_at_call 107;refine kb.mono ?_;rintro e w' ⟨⟨x0,rfl⟩,hb'⟩;have nB_:=Mw (HB.out.trans (hb'.mono HBS.out));have nZ_:=Mw (Mx HBS.out hb'.size);clear HO HS HB HBS;have HB:=nB_;have HBS:=nZ_;clear nB_ nZ_ hb') | (go_at_call 87;refine (jd _ 216 x0).mono ?_;rintro e w' ⟨⟨y0,rfl⟩,hb'⟩;have nB_:=Mw (HB.out.trans (hb'.mono HBS.out));clear HB;have HB:=nB_;clear nB_ hb'))
    go_ret2
    exact dh.bad HR3.out.symm HB.out
   have kr:=kQ wr s g p 6 bs HS.out hroom HLN.out (by decide) (by decide) HX.out;obtain⟨n,hnn⟩:∃ n,aq bs p 6=n:=⟨_,rfl⟩;rw [hnn] at kr hr3;have hn24:n<64:=by rw [<- hnn];exact gy _ _ _
   by_cases hn:n<45;rotate_left
   ·rw [if_neg (fun h=>hn h.2)] at hr3;have HR3:=Mw hr3;clear hr3 hroom hnn;replace hn:45<=n:=by omega
    go_wp2_with (first | (go_at_call 107;refine kr.mono ?_;rintro e w' ⟨rfl,hS',hT'⟩;have nG_:=Mw (HGW.out.turn hT');have nO_:=Mw (gW HO.out HS.out.1 hT');have nB_:=Mw (HB.out.trans (hT'.below hbs));have nZ_:=Mw (show base<=w'.heap.size by rw [hT'.size];exact HBS.out);clear HO HS HB HBS HGW;have HO:=nO_;have HS:=Mw hS';have HB:=nB_;have HBS:=nZ_;have HGW:=nG_;clear nO_ nB_ nZ_ nG_ hS' hT') | (go_at_call 145;refine (ro _ n hn (by omega)).mono ?_;rintro e w' ⟨⟨x0,rfl⟩,hb'⟩;have nB_:=Mw (HB.out.trans (hb'.mono HBS.out));have nZ_:=Mw (Mx HBS.out hb'.size);clear HB HBS;have HB:=nB_;have HBS:=nZ_;clear nB_ nZ_ hb') | (go_at_call 87;refine (jd _ 208 x0).mono ?_;rintro e w' ⟨⟨y0,rfl⟩,hb'⟩;have nB_:=Mw (HB.out.trans (hb'.mono HBS.out));clear HB;have HB:=nB_;clear nB_ hb'))
    go_ret2
    exact dh.bad HR3.out.symm HB.out
   rw [if_pos ⟨hroom,hn⟩] at hr3;have HR3:=Mw hr3;clear hr3 hroom hnn
   go_wp2_with (first | (go_at_call 107;refine kr.mono ?_;rintro e w' ⟨rfl,hS',hT'⟩;have nG_:=Mw (HGW.out.turn hT');have nO_:=Mw (gW HO.out HS.out.1 hT');have nB_:=Mw (HB.out.trans (hT'.below hbs));have nZ_:=Mw (show base<=w'.heap.size by rw [hT'.size];exact HBS.out);clear HO HS HB HBS HGW;have HO:=nO_;have HS:=Mw hS';have HB:=nB_;have HBS:=nZ_;have HGW:=nG_;clear nO_ nB_ nZ_ nG_ hS' hT') | (go_at_call 145;refine (nE _ n hn).mono ?_;rintro e w' ⟨rfl,rfl⟩) | ((with_reducible refine bD (b:=.append) (xs:=#[.tmp 81,.tmp 83]) rfl ?_);at_builtin;refine eI (w0:=w0) base rfl (.tmp 81) (.tmp 83) 26 5 .u8 1 rfl Tryz.underlying26 F.cS (by decide) _ _ _ rfl rfl HO.out HB.out HBS.out ?aL ?_;(case aL=>(have:=HLEN.out;(try simp only [My,Mz,MA]);omega));intro v_ w1 ho hb hg hat;have nG_:=Mw (HGW.out.app hg hat);have nS_:=Mw (HS.out.grown (base:=base) HO.out hg0 hg);have nB_:=Mw (Mx HBS.out hg.size);have n0_:=Mw ho;have n1_:=Mw hb;clear HO HB HS HBS HGW;have HO:=n0_;have HB:=n1_;have HS:=nS_;have HBS:=nB_;have HGW:=nG_;clear n0_ n1_ nS_ nB_ nG_ ho hb hg hat))
   go_ret2
   exact dh.fine HR3.out.symm HO.out HS.out HB.out HGW.out
  have hr3:=HR.out;rw [dy,if_pos h3] at hr3;by_cases hroom:p+11<=8*bs.length;rotate_left
  ·rw [if_neg (fun h=>hroom h.1)] at hr3;have HR3:=Mw hr3;have kb:=lS wr s g p 11 bs HS.out HP.out (by omega) HLN.out (by decide) (by decide);clear hr3 hroom
   go_wp2_with (first | (go_at_call 107;refine kb.mono ?_;rintro e w' ⟨⟨x0,rfl⟩,hb'⟩;have nB_:=Mw (HB.out.trans (hb'.mono HBS.out));have nZ_:=Mw (Mx HBS.out hb'.size);clear HO HS HB HBS;have HB:=nB_;have HBS:=nZ_;clear nB_ nZ_ hb') | (go_at_call 87;refine (jd _ 216 x0).mono ?_;rintro e w' ⟨⟨y0,rfl⟩,hb'⟩;have nB_:=Mw (HB.out.trans (hb'.mono HBS.out));clear HB;have HB:=nB_;clear nB_ hb'))
   go_ret2
   exact dh.bad HR3.out.symm HB.out
  have kr:=kQ wr s g p 11 bs HS.out hroom HLN.out (by decide) (by decide) HX.out;obtain⟨n,hnn⟩:∃ n,aq bs p 11=n:=⟨_,rfl⟩;rw [hnn] at kr hr3;have hn24:n<2048:=by rw [<- hnn];exact gy _ _ _
  obtain⟨q,hqq⟩:∃ q,n/45=q:=⟨_,rfl⟩;obtain⟨r,hrr⟩:∃ r,n%45=r:=⟨_,rfl⟩;have hqi:(n:Int)/45=(q:Int):=by omega
  have hri:(n:Int)%45=(r:Int):=by omega
  have hq100:q<100:=by omega
  have hr:r<45:=by omega
  rw [hqq,hrr] at hr3;by_cases hq:q<45;rotate_left
  ·rw [if_neg (fun h=>hq h.2)] at hr3;have HR3:=Mw hr3;clear hr3 hroom hnn hqq hrr;replace hq:45<=q:=by omega
   go_wp2_with (first | (go_at_call 107;refine kr.mono ?_;rintro e w' ⟨rfl,hS',hT'⟩;have nG_:=Mw (HGW.out.turn hT');have nO_:=Mw (gW HO.out HS.out.1 hT');have nB_:=Mw (HB.out.trans (hT'.below hbs));have nZ_:=Mw (show base<=w'.heap.size by rw [hT'.size];exact HBS.out);clear HO HS HB HBS HGW;have HO:=nO_;have HS:=Mw hS';have HB:=nB_;have HBS:=nZ_;have HGW:=nG_;clear nO_ nB_ nZ_ nG_ hS' hT') | (go_at_call 145;refine (ro _ q hq (by omega)).mono ?_;rintro e w' ⟨⟨x0,rfl⟩,hb'⟩;have nB_:=Mw (HB.out.trans (hb'.mono HBS.out));have nZ_:=Mw (Mx HBS.out hb'.size);clear HB HBS;have HB:=nB_;have HBS:=nZ_;clear nB_ nZ_ hb') | (go_at_call 87;refine (jd _ 208 x0).mono ?_;rintro e w' ⟨⟨y0,rfl⟩,hb'⟩;have nB_:=Mw (HB.out.trans (hb'.mono HBS.out));clear HB;have HB:=nB_;clear nB_ hb'))
   go_ret2
   exact dh.bad HR3.out.symm HB.out
  rw [if_pos ⟨hroom,hq⟩] at hr3;have HR3:=Mw hr3;have HRM:=Mw hroom;clear hr3 hroom hnn hqq hrr
  go_wp2_with (first | (go_at_call 107;refine kr.mono ?_;rintro e w' ⟨rfl,hS',hT'⟩;have nG_:=Mw (HGW.out.turn hT');have nO_:=Mw (gW HO.out HS.out.1 hT');have nB_:=Mw (HB.out.trans (hT'.below hbs));have nZ_:=Mw (show base<=w'.heap.size by rw [hT'.size];exact HBS.out);clear HO HS HB HBS HGW;have HO:=nO_;have HS:=Mw hS';have HB:=nB_;have HBS:=nZ_;have HGW:=nG_;clear nO_ nB_ nZ_ nG_ hS' hT') | (go_at_call 145;first | (with_reducible refine (nE _ q hq).mono ?_;rintro e w' ⟨rfl,rfl⟩) | (with_reducible refine (nE _ r hr).mono ?_;rintro e w' ⟨rfl,rfl⟩)) | ((with_reducible refine bD (b:=.append) (xs:=#[.tmp 43,.tmp 45]) rfl ?_);at_builtin;refine eI (w0:=w0) base rfl (.tmp 43) (.tmp 45) 26 5 .u8 1 rfl Tryz.underlying26 F.cS (by decide) _ _ _ rfl rfl HO.out HB.out HBS.out ?aL ?_;(case aL=>(have:=HLEN.out;(try simp only [My,Mz,MA]);omega));intro v_ w1 ho hb hg hat;have nG_:=Mw (HGW.out.app hg hat);have nS_:=Mw (HS.out.grown (base:=base) HO.out hg0 hg);have nB_:=Mw (Mx HBS.out hg.size);have n0_:=Mw ho;have n1_:=Mw hb;clear HO HB HS HBS HGW;have HO:=n0_;have HB:=n1_;have HS:=nS_;have HBS:=nB_;have HGW:=nG_;clear n0_ n1_ nS_ nB_ nG_ ho hb hg hat) | ((with_reducible refine bD (b:=.append) (xs:=#[.tmp 53,.tmp 55]) rfl ?_);at_builtin;refine eI (w0:=w0) base rfl (.tmp 53) (.tmp 55) 26 5 .u8 1 rfl Tryz.underlying26 F.cS (by decide) _ _ _ rfl rfl HO.out HB.out HBS.out ?aL ?_;(case aL=>(have:=HLEN.out;(try simp only [My,Mz,MA]);omega));intro v_ w1 ho hb hg hat;have nG_:=Mw (HGW.out.app hg hat);have nS_:=Mw (HS.out.grown (base:=base) HO.out hg0 hg);have nB_:=Mw (Mx HBS.out hg.size);have n0_:=Mw ho;have n1_:=Mw hb;clear HO HB HS HBS HGW;have HO:=n0_;have HB:=n1_;have HS:=nS_;have HBS:=nB_;have HGW:=nG_;clear n0_ n1_ nS_ nB_ nG_ ho hb hg hat))
  clear hqi hri
  go_roundw
  case rel=>exact⟨c-2,p+11,_,by go_num,by omega,HO,HS,HB,HBS,HR3,HRM,⟨by have:=HLEN.out;simp only [My,Mz,MA];omega⟩,HGW⟩
  case measure=>simp [intOf];omega
structure cU (w wr:World)(B0 s g:Nat)(bs:List Nat)(pos:Nat)(v11 v12:Value)(out:List Int)(qs:List Nat)(segs:List (List Int)):Prop where
 own:wr.ownsRow B0 5 1 v11 out.length (ac .u8 out)
 segs:im wr B0 v12 v11 qs segs
 src:ca wr s g bs pos
 bel:Below B0 w wr
 sz:B0<=wr.heap.size
theorem mL {w w':World}{base size n:Nat}{e:TypeId}{v:Value}{xs:List Value}(h:w.ownsRow base e size v n xs)(hb:Below w.heap.size w w'):w'.ownsRow base e size v n xs:=ei h fun k hk=>by
 obtain⟨cs,hc⟩:=eM h k hk;exact hb.block k hc.lt
theorem im.under {w w':World}{base:Nat}{vs v:Value}{qs:List Nat}{segs:List (List Int)}(h:im w base vs v qs segs)(hb:Below w.heap.size w w'):im w' base vs v qs segs :=
 ⟨h.len,mL h.own hb,fun i hi=>by obtain⟨h1,h2,h3⟩:=h.blk i hi;exact⟨h1,h2.below hb h2.lt,h3⟩⟩
theorem cU.under {w wr w':World}{B0 s g:Nat}{bs:List Nat}{pos:Nat}{v11 v12:Value}{out:List Int}{qs:List Nat}{segs:List (List Int)}(h:cU w wr B0 s g bs pos v11 v12 out qs segs)(hb:Below wr.heap.size wr w'):cU w w' B0 s g bs pos v11 v12 out qs segs :=
 ⟨mL h.own hb,h.segs.under hb,h.src.move (hb.block s h.src.1.lt) (hb.block g h.src.2.lt),h.bel.trans (hb.mono h.sz),Mx h.sz hb.size⟩
theorem FU {w w':World}(h:Drawn w w'):Below w.heap.size w w':=by
 obtain⟨n,rfl⟩:=h;exact au (Below.refl _ _) n
theorem cU.turn {w wr w':World}{B0 s g:Nat}{bs:List Nat}{pos pos':Nat}{v11 v12:Value}{out:List Int}{qs:List Nat}{segs:List (List Int)}(h:cU w wr B0 s g bs pos v11 v12 out qs segs)(hs:ca w' s g bs pos')(ht:af wr w' s)(hb:B0<=s):cU w w' B0 s g bs pos' v11 v12 out qs segs:=by
 refine⟨gW h.own h.src.1 ht,⟨h.segs.len,ei h.segs.own fun k hk=>?_,fun i hi=>?_⟩,hs,h.bel.trans (ht.below hb),by rw [ht.size];exact h.sz⟩
 ·obtain⟨cs,hc⟩:=eM h.segs.own k hk;exact ht.block k (bd hc h.src.1 (by decide))
 obtain⟨h1,h2,h3⟩:=h.segs.blk i hi;exact⟨h1,ht.blk h2 (bd h2 h.src.1 (by decide)),h3⟩
section
variable {w wr:World} {B0 s g:Nat} {bs:List Nat} {pos:Nat} {v11 v12:Value} {out:List Int} {qs:List Nat} {segs:List (List Int)}
theorem gz {r:Nat}(h:cU w wr B0 s g bs pos v11 v12 out qs segs)(hp:pos<=8*bs.length)(hl:bs.length<=100000)(hr:8*bs.length-pos=r) :
  Calls Tryz.prog 106 #[.pointer (some ⟨s,0,none⟩)] wr fun e w'=>e=.returned (.int .i64 (r:Int))/\cU w w' B0 s g bs pos v11 v12 out qs segs:=by
 refine (ri wr s g pos bs h.src hp hl).mono ?_;rintro e w' ⟨rfl,hd⟩;exact⟨by rw [hr],h.under (FU hd)⟩
theorem eH {k n:Nat}{y:Int}(h:cU w wr B0 s g bs pos v11 v12 out qs segs)(hn:aq bs pos k=n)(hy:y=(k:Int))(hp:pos+k<=8*bs.length)(hl:bs.length<=100000)(hk:1<=k)(hk2:k<=32)(hx:ab 8 bs)(hb:B0<=s) :
  Calls Tryz.prog 107 #[.pointer (some ⟨s,0,none⟩),.int .i64 y] wr fun e w'=>e=.returned (.tuple #[.int .i64 (n:Int),.nilIface])/\cU w w' B0 s g bs (pos+k) v11 v12 out qs segs:=by
 subst hy;refine (kQ wr s g pos k bs h.src hp hl hk hk2 hx).mono ?_;rintro e w' ⟨rfl,hs,ht⟩;exact⟨by rw [hn],h.turn hs ht hb⟩
theorem tH {k:Nat}(h:cU w wr B0 s g bs pos v11 v12 out qs segs)(hp:pos<=8*bs.length)(hp2:8*bs.length<pos+k)(hl:bs.length<=100000)(hk:1<=k)(hk2:k<=32) :
  Calls Tryz.prog 107 #[.pointer (some ⟨s,0,none⟩),.int .i64 (k:Int)] wr fun e w'=>(∃ x,e=.returned (.tuple #[.int .i64 0,.iface 216 x]))/\Below B0 w w'/\B0<=w'.heap.size:=by
 refine (lS wr s g pos k bs h.src hp hp2 hl hk hk2).mono ?_;rintro e w' ⟨⟨x,rfl⟩,hb⟩;exact⟨⟨x,rfl⟩,h.bel.trans (hb.mono h.sz),Mx h.sz hb.size⟩
theorem tI {t:TypeId}{x:Value}(hb:Below B0 w wr)(hz:B0<=wr.heap.size):Calls Tryz.prog 87 #[.iface t x] wr fun e w'=>(∃ y,e=.returned (.iface 208 y))/\Below B0 w w':=by
 refine (jd wr t x).mono ?_;rintro e w' ⟨⟨y,rfl⟩,hb'⟩;exact⟨⟨y,rfl⟩,hb.trans (hb'.mono hz)⟩
theorem kU {pv v m:Nat}{x:Int}(h:cU w wr B0 s g bs pos v11 v12 out qs segs){w0:World}(hV:bT w0 pv (v:Int) (dw v))(hw:Below w0.heap.size w0 wr)(hv:1<=v/\v<=40)(hm:m=1\/m=2\/m=4)(hxm:x=(m:Int)) :
  Calls Tryz.prog 111 #[.int .i64 x,.pointer (some ⟨pv,0,none⟩)] wr fun e w'=>e=.returned (.int .i64 (aw m v:Int))/\cU w w' B0 s g bs pos v11 v12 out qs segs:=by
 subst hxm;refine (Gd wr pv v m _ (hV.below hw (MD _)) hv hm).mono ?_;rintro e w' ⟨rfl,hb⟩;exact⟨rfl,h.under hb⟩
theorem cU.seg {w':World}{v':Value}{ys:List Int}{p:Nat}(h:cU w wr B0 s g bs pos v11 v12 out qs segs)(h1:w'.ownsRow B0 5 1 v' ys.length (ac .u8 ys))(h2:ca w' s g bs p)(h3:Below B0 w w')(h4:cT wr w' s v11 v'):cU w w' B0 s g bs p v' v12 ys qs segs :=
 ⟨h1,h.segs.grow h.own h.src.1 h4,h2,h3,Mx h.sz h4.size⟩
theorem numP {cnt p:Nat}{ys:List Int}(h:cU w wr B0 s g bs pos v11 v12 out qs segs)(hr:eF bs pos cnt out=some (ys,p))(hg:g<B0)(hb:B0<=s)(hx:ab 8 bs)(hl:bs.length<=100000)(hc:cnt<=100000)(ho:out.length<=1000000)(hp:pos<=8*bs.length) :
  Calls Tryz.prog 113 #[.pointer (some ⟨s,0,none⟩),v11,.int .i64 (cnt:Int)] wr fun e w'=>∃ v',e=.returned (.tuple #[v',.nilIface])/\cU w w' B0 s g bs p v' v12 ys qs segs:=by
 refine (yX w wr B0 s g pos cnt bs v11 out h.src hg hb h.own h.bel h.sz hx hl hc ho hp).mono ?_;rw [hr];rintro e w' ⟨v',rfl,h1,h2,h3,h4⟩;exact⟨v',rfl,h.seg h1 h2 h3 h4⟩
theorem FV {cnt:Nat}(h:cU w wr B0 s g bs pos v11 v12 out qs segs)(hr:eF bs pos cnt out=none)(hg:g<B0)(hb:B0<=s)(hx:ab 8 bs)(hl:bs.length<=100000)(hc:cnt<=100000)(ho:out.length<=1000000)(hp:pos<=8*bs.length) :
  Calls Tryz.prog 113 #[.pointer (some ⟨s,0,none⟩),v11,.int .i64 (cnt:Int)] wr fun e w'=>∃ v' x,e=.returned (.tuple #[v',.iface 208 x])/\Below B0 w w':=by
 refine (yX w wr B0 s g pos cnt bs v11 out h.src hg hb h.own h.bel h.sz hx hl hc ho hp).mono ?_;rw [hr];rintro e w' ⟨v',x,rfl,h1⟩;exact⟨v',x,rfl,h1⟩
theorem alP {cnt p:Nat}{ys zs:List Int}(fc:Bool)(h:cU w wr B0 s g bs pos v11 v12 out qs segs)(hr:dy bs pos cnt out=some (ys,p))(hz:kS fc out ys=zs)(hg:g<B0)(hb:B0<=s)(hx:ab 8 bs)(hl:bs.length<=100000)(hc:cnt<=100000)(ho:out.length<=1000000)(hp:pos<=8*bs.length) :
  Calls Tryz.prog 114 #[.pointer (some ⟨s,0,none⟩),v11,.int .i64 (cnt:Int),.bool fc] wr fun e w'=>∃ v',e=.returned (.tuple #[v',.nilIface])/\cU w w' B0 s g bs p v' v12 zs qs segs:=by
 cases fc with
 | false=>
  refine (yU w wr B0 s g pos cnt bs v11 out h.src hg hb h.own h.bel h.sz hx hl hc ho hp).mono ?_;rw [hr];rintro e w' ⟨v',rfl,h1,h2,h3,h4⟩;have:zs=ys:=by rw [<- hz];rfl
  subst this;exact⟨v',rfl,h.seg h1 h2 h3 h4⟩
 | true=>
  refine (yT w wr B0 s g pos cnt bs v11 out h.src hg hb h.own h.bel h.sz hx hl hc ho hp).mono ?_;rw [hr];rintro e w' ⟨v',rfl,h1,h2,h3,h4⟩;have:zs=ys.take out.length++bj (ys.drop out.length):=by rw [<- hz,FR bs _ _ _ _ _ hr];rfl
  subst this;exact⟨v',rfl,h.seg h1 h2 h3 h4⟩
theorem FW {cnt:Nat}(fc:Bool)(h:cU w wr B0 s g bs pos v11 v12 out qs segs)(hr:dy bs pos cnt out=none)(hg:g<B0)(hb:B0<=s)(hx:ab 8 bs)(hl:bs.length<=100000)(hc:cnt<=100000)(ho:out.length<=1000000)(hp:pos<=8*bs.length) :
  Calls Tryz.prog 114 #[.pointer (some ⟨s,0,none⟩),v11,.int .i64 (cnt:Int),.bool fc] wr fun e w'=>∃ v' x,e=.returned (.tuple #[v',.iface 208 x])/\Below B0 w w':=by
 cases fc with
 | false=>
  refine (yU w wr B0 s g pos cnt bs v11 out h.src hg hb h.own h.bel h.sz hx hl hc ho hp).mono ?_;rw [hr];rintro e w' ⟨v',x,rfl,h1⟩;exact⟨v',x,rfl,h1⟩
 | true=>
  refine (yT w wr B0 s g pos cnt bs v11 out h.src hg hb h.own h.bel h.sz hx hl hc ho hp).mono ?_;rw [hr];rintro e w' ⟨v',x,rfl,h1⟩;exact⟨v',x,rfl,h1⟩
theorem FX {cnt:Nat}{hint:Value}(h:cU w wr B0 s g bs pos v11 v12 out qs segs)(hg:g<B0)(hb:B0<=s)(hx:ab 8 bs)(hl:bs.length<=100000)(hc:cnt<=100000)(ho:out.length<=1000000)(hs:segs.length<=1000000)(hp:pos+8*cnt<=8*bs.length) :
  Calls Tryz.prog 115 #[.pointer (some ⟨s,0,none⟩),v11,.int .i64 (cnt:Int),.pointer none,v12,hint] wr fun e w'=>∃ v' vs' qs',e=.returned (.tuple #[v',vs',.nilIface])/\cU w w' B0 s g bs (pos+8*cnt) v' vs' (out++dV bs pos cnt) qs' (segs++[dV bs pos cnt]):=by
 refine (Ga w wr B0 s g pos cnt bs v11 v12 hint out qs segs h.src hg hb h.own h.segs h.bel h.sz hx hl hc ho hs hp).mono ?_;rintro e w' ⟨v',vs',qs',rfl,h1,h2,h3,h4,h5⟩;exact⟨v',vs',qs',rfl,h1,h2,h3,h4,h5⟩
theorem FY {cnt:Nat}{hint:Value}(h:cU w wr B0 s g bs pos v11 v12 out qs segs)(hl:bs.length<=100000)(hp:pos<=8*bs.length)(hp2:8*bs.length<pos+8*cnt)(hc:cnt<=100000) :
  Calls Tryz.prog 115 #[.pointer (some ⟨s,0,none⟩),v11,.int .i64 (cnt:Int),.pointer none,v12,hint] wr fun e w'=>∃ v' vs' x,e=.returned (.tuple #[v',vs',.iface 208 x])/\Below B0 w w':=by
 obtain⟨r,hr⟩:∃ r:Nat,8*bs.length-pos=r:=⟨_,rfl⟩;have HL:=Mw (fun (W:World) (hW:cU w W B0 s g bs pos v11 v12 out qs segs)=>gz (r:=r) hW hp hl hr);have HM:=Mw h;have hcr:r<8*cnt:=by omega
 have hdd:decide ((r:Int)<8*(cnt:Int))=true:=decide_eq_true (by omega);clear h hl hp hp2 hr
 go_enter Tryz.func115,Tryz.ntmps115
 go_wp2_with (first | (go_at_call 106;refine (HL.out _ HM.out).mono ?_;rintro e w' ⟨rfl,hM'⟩;have nM:=Mw hM';clear HM hM';have HM:=nM;clear nM) | (go_at_call 89;refine (pt _ _).mono ?_;rintro e w' ⟨⟨y0,rfl⟩,hb'⟩;have nB:=Mw ((HM.out.bel.alloc HM.out.sz _).trans (hb'.mono (by simp;exact Nat.le_succ_of_le HM.out.sz)));clear HM hb'))
 go_ret3
 exact⟨_,_,_,rfl,nB.out⟩
theorem iJ (W:World)(x:Int)(h:x=0\/x=1\/x=2\/x=3\/x=4\/x=5):Calls Tryz.prog 108 #[.int .i64 x] W fun e w'=>e=.returned (.tuple #[.int .i64 x,.nilIface])/\W=w':=by
 obtain⟨n,rfl⟩:∃ n:Nat,x=(n:Int):=⟨x.toNat,by omega⟩;refine (FJ W n (by omega)).mono ?_;rintro e w' ⟨rfl,rfl⟩;exact⟨rfl,rfl⟩
def tJ (w:World)(a:Addr):Nat:=match w.cell? a with
 | some (.int _ n)=>n.toNat
 | _=>0
def tK (w:World)(s:Nat):Nat:=8*tJ w ⟨s,1,none⟩+tJ w ⟨s,2,none⟩
theorem nF {w:World}{s g pos:Nat}{bs:List Nat}(h:ca w s g bs pos):tK w s=pos:=by
 have c1:w.cell? ⟨s,1,none⟩=some (.int .i64 ((pos/8:Nat):Int)):=h.1.cell 1;have c2:w.cell? ⟨s,2,none⟩=some (.int .i64 ((pos%8:Nat):Int)):=h.1.cell 2;unfold tK tJ;rw [c1,c2];simp only [MB];omega
end
structure eS (w w':World)(v v':Value):Prop where
 by_:w.grownBy w' v.ownBlock
 at_:v'.ownBlock=v.ownBlock\/∃ b,v'.ownBlock=some b/\w.heap.size<=b
theorem eS.refl (w:World)(v:Value):eS w w v v:=⟨World.grownBy.refl w _,.inl rfl⟩
theorem eS.trans {w x y:World}{v v' v2:Value}(h:eS w x v v')(k:eS x y v' v2):eS w y v v2:=by
 have hs:=h.by_.size;refine⟨⟨k.by_.os.trans h.by_.os,k.by_.tape.trans h.by_.tape,k.by_.output.trans h.by_.output,Mx hs k.by_.size,fun i hi h1=>?_⟩,?_⟩;rotate_left
 ·rcases k.at_ with e | ⟨b,e,hb⟩
  ·rw [e];exact h.at_
  exact .inr ⟨b,e,by omega⟩
 refine (k.by_.block i (by omega) ?_).trans (h.by_.block i hi h1);rcases h.at_ with e | ⟨b,e,hb⟩
 ·rw [e];exact h1
 rw [e];intro hc;injection hc with hc;omega
theorem eS.below {w x y:World}{v v':Value}(h:eS w x v v')(hb:Below x.heap.size x y):eS w y v v' :=
 ⟨⟨hb.os.trans h.by_.os,hb.tape.trans h.by_.tape,hb.output.trans h.by_.output,Mx h.by_.size hb.size,fun i hi h1=>(hb.block i (Nat.lt_of_lt_of_le hi h.by_.size)).trans (h.by_.block i hi h1)⟩,h.at_⟩
def cJ (w:World)(base:Nat)(v:Value)(xs:List Bool):Prop:=w.ownsRow base 4 1 v xs.length (jh xs)
theorem FZ (n k i:Nat)(hi:i<k):aD (n/2 ^ (k-(i+1))) (i+1)=aD (n/2 ^ (k-i)) i++[n.testBit (k-1-i)]:=by
 rw [za,Nat.div_div_eq_div_mul,show 2 ^ (k-(i+1))*2=2 ^ (k-i) by rw [<- Nat.pow_succ];congr 1;omega]
 congr 2;rw [Nat.testBit_div_two_pow,show 0+(k-(i+1))=k-1-i by omega]
theorem yV (n b:Nat)(hn:n<2147483648):(Go.bits .and .i64 ((n:Int)/2 ^ b) 1==1)=n.testBit b:=by
 have e1:(n:Int)/2 ^ b=((n/2 ^ b:Nat):Int):=by rw [Int.natCast_ediv,Int.natCast_pow];rfl
 have hle:n/2 ^ b<=n:=Nat.div_le_self _ _;have e2:=pz (n/2 ^ b) 1 (by omega) (by omega);rw [e1,show (1:Int)=((1:Nat):Int) from rfl,e2,Nat.and_one_is_mod,Nat.testBit_eq_decide_div_mod_eq];by_cases h:n/2 ^ b%2=1
 ·rw [h];rfl
 rw [show n/2 ^ b%2=0 by omega];rfl
theorem F0:(Tryz.prog.info? 4).map (fun i=>(i.zero,i.size,i.bytes))=some (some (.bool false),1,1):=by kernel_rfl
theorem yW (xs:List Bool):(jh xs).length=xs.length:=by simp [jh]
set_option maxHeartbeats 1000000 in
set_option maxRecDepth 8000 in
theorem tM (w0 w:World)(base n k:Nat)(v:Value)(xs:List Bool)(hO:cJ w base v xs)(hB:Below base w0 w)(hbase:base<=w.heap.size)(hn:n<2147483648)(hk:k<=60)(hxl:xs.length<=10000000) :
  Calls Tryz.prog 66 #[v,.int .i64 (n:Int),.int .i64 (k:Int)] w fun e w'=>∃ v',e=.returned v'/\cJ w' base v' (xs++aD n k)/\Below base w0 w'/\eS w w' v v':=by
 have HO:=Mw (show cJ w base v (xs++aD (n/2 ^ (k-0)) 0) by simpa [aD] using hO);have HB:=Mw hB;have HBS:=Mw hbase;have HG:=Mw (eS.refl w v);have HXL:=Mw hxl;clear hO hB hbase hxl
 go_enter Tryz.func66,Tryz.ntmps66
 go_wp2
 go_loopw [0,7] (fun vr vi wr=>∃ i:Nat,i<=k/\vi=.int .i64 ((k:Int)-1-(i:Int))/\Aside0 (cJ wr base vr (xs++aD (n/2 ^ (k-i)) i))/\Aside0 (Below base w0 wr)/\Aside0 (base<=wr.heap.size)/\Aside0 (eS w wr v vr)) (fun _ vi _=>(intOf vi+1).toNat)
 case atStart=>exact⟨0,Nat.zero_le _,by go_num,HO,HB,HBS,HG⟩
 case round=>
  clear HO HB HBS HG;obtain⟨i,hi,rfl,HO,HB,HBS,HG⟩:=hrel;by_cases hik:i<k;rotate_left
  ·have:k=i:=by omega
   subst this
   go_wp2
   go_ret
   exact⟨_,rfl,by have:=HO.out;rwa [Nat.sub_self,Nat.pow_zero,Nat.div_one] at this,HB.out,HG.out⟩
  obtain⟨b,hb⟩:∃ b:Nat,k-1-i=b:=⟨_,rfl⟩;have hbi:(k:Int)-1-(i:Int)=(b:Int):=by omega
  have hb60:b<60:=by omega
  have HL:=Mw (FZ n k i hik);rw [hb] at HL;rw [hbi];have HBI:=Mw hbi;clear hb hbi;have hbit:=yV n b hn;obtain⟨t,ht⟩:∃ t,n.testBit b=t:=⟨_,rfl⟩;rw [ht] at hbit HL;clear ht
  go_wp2_with (first | ((with_reducible refine bD (b:=.append) (xs:=#[.tmp 14,.tmp 20]) rfl ?_);at_builtin;refine pL (w0:=w0) base rfl (.tmp 14) (.tmp 20) 45 4 (.bool false) 1 rfl Tryz.underlying45 F0 rfl (by decide) _ (jh (xs++aD (n/2 ^ (k-i)) i)) (.bool t) rfl rfl rfl ?bO HB.out HBS.out ?bL ?_;(case bO=>(rw [yW];exact HO.out));(case bL=>(rw [yW,My,bV];have:=HXL.out;omega));intro v1 w1 ho hb hg hat;have nO:=Mw ho;have nB:=Mw hb;have nS:=Mw (Mx HBS.out hg.size);have nG:=Mw (HG.out.trans ⟨hg,hat⟩);clear ho hb hg hat))
  clear hbit
  go_roundw
  case rel=>exact⟨i+1,by omega,by have:=HBI.out;go_num,⟨by rw [HL.out,<- List.append_assoc];have:=nO.out;unfold cJ;rw [show jh (xs++aD (n/2 ^ (k-i)) i++[t])=jh (xs++aD (n/2 ^ (k-i)) i)++[Value.bool t] by simp [jh]];rw [show (xs++aD (n/2 ^ (k-i)) i++[t]).length=(jh (xs++aD (n/2 ^ (k-i)) i)++[Value.bool t]).length by simp [jh]];exact this⟩,nB,nS,nG⟩
  case measure=>simp [intOf]<;>omega
end Go.Proofs.YtgccjgpdjkhpdaaGreat.B
