import Derived.Test.YtgccjgpdjkhpdaaGreatVErrors15
open Go.Proofs.YtgccjgpdjkhpdaaGreatW.PrintWords.Aside0 renaming mk→Mw
open List renaming range→Mx,getD_eq_getElem?_getD→My,range_succ→MB,getElem?_append_right→MC,map_congr_left→MD,length_append→ME,replicate→MH,getElem?_append_left→MI,ext_getElem→MJ,flatMap_append→MK,getElem?_eq_getElem→ML
open Bool renaming eq_iff_iff→Mz,or_eq_true→MF,and_eq_true→MG
open Nat renaming le_refl→MA
/-! Own texts of this claim, part 10. -/
namespace Go.Proofs.YtgccjgpdjkhpdaaGreat.B
open Go.RowKit Go.Proofs.YtgccjgpdjkhpdaaGreatW.PrintWords Go.Proofs.YtgccjgpdjkhpdaaGreatW.PrintLast Go.Proofs.YtgccjgpdjkhpdaaGreatW.PrintMore
set_option linter.unusedVariables false
set_option linter.unusedSimpArgs false
theorem B8:∀ v:Fin 40,(dw (v.val+1)).1=ak (bA (v.val+1))/\(bA (v.val+1)).length<=7/\∀ c∈bA (v.val+1),6<=c/\c+7<=17+4*(v.val+1):=by decide +kernel
theorem B9 (v:Nat)(hv:1<=v/\v<=40):(dw v).1=ak (bA v)/\(bA v).length<=7/\∀ c∈bA v,6<=c/\c+7<=17+4*v:=by
 have:=B8 ⟨v-1,by omega⟩;simp only [show v-1+1=v by omega] at this;exact this
def iU (cs:List Nat)(X Y x y:Nat):Bool:=(Mx cs.length).any fun p=>(Mx cs.length).any fun q=>
 decide ((p<X\/p=X/\q<Y)/\gA (cs.length-1) p q=false/\dz (cs.getD q 0-2) (cs.getD p 0-2) 5 5 x y=true)
theorem na (cs:List Nat)(X Y x y:Nat):iU cs X Y x y=true↔∃ p q,p<cs.length/\q<cs.length/\(p<X\/p=X/\q<Y)/\gA (cs.length-1) p q=false/\dz (cs.getD q 0-2) (cs.getD p 0-2) 5 5 x y=true:=by
 unfold iU;simp only [List.any_eq_true,List.mem_range,decide_eq_true_eq];constructor
 ·rintro⟨p,hp,q,hq,h⟩;exact⟨p,q,hp,hq,h⟩
 rintro⟨p,q,hp,hq,h⟩;exact⟨p,hp,q,hq,h⟩
theorem Ca (cs:List Nat)(x y:Nat):iU cs 0 0 x y=false:=by
 rw [Bool.eq_false_iff];intro h;obtain⟨p,q,_,_,h,_⟩:=(na cs 0 0 x y).1 h;omega
theorem Cb (cs:List Nat)(X x y:Nat):iU cs X cs.length x y=iU cs (X+1) 0 x y:=by
 rw [Mz,na,na];constructor
 ·rintro⟨p,q,hp,hq,h,k⟩;exact⟨p,q,hp,hq,by omega,k⟩
 rintro⟨p,q,hp,hq,h,k⟩;exact⟨p,q,hp,hq,by omega,k⟩
theorem Cc (cs:List Nat)(X Y x y:Nat)(hX:X<cs.length)(hY:Y<cs.length):iU cs X (Y+1) x y=((!gA (cs.length-1) X Y && dz (cs.getD Y 0-2) (cs.getD X 0-2) 5 5 x y) || iU cs X Y x y):=by
 rw [Mz,MF,MG,na,na,Bool.not_eq_true'];constructor;rotate_left
 ·rintro (⟨k1,k2⟩ | ⟨p,q,hp,hq,h,k⟩)
  ·exact⟨X,Y,hX,hY,by omega,k1,k2⟩
  exact⟨p,q,hp,hq,by omega,k⟩
 rintro⟨p,q,hp,hq,h,k1,k2⟩;by_cases e:p=X/\q=Y;rotate_left
 ·exact .inr ⟨p,q,hp,hq,by omega,k1,k2⟩
 obtain⟨rfl,rfl⟩:=e;exact .inl ⟨k1,k2⟩
theorem wk (last i y:Nat):∀ (cs:List Nat) (k:Nat),iM last i y k cs=true↔∃ q,q<cs.length/\gA last i (k+q)=false/\(cs.getD q 0-2<=y/\y<cs.getD q 0-2+5):=by
 intro cs
 induction cs with
 | nil=>intro k;simp [iM]
 | cons b cs ih=>
  intro k;rw [iM,MF,MG,Bool.not_eq_true',decide_eq_true_eq,ih];constructor
  ·rintro (⟨h1,h2⟩ | ⟨q,hq,h1,h2⟩)
   ·exact⟨0,by simp,h1,h2⟩
   exact⟨q+1,by simpa using hq,by rw [show k+(q+1)=k+1+q by omega];exact h1,by simpa using h2⟩
  rintro⟨q,hq,h1,h2⟩;cases q with
  | zero=>exact .inl ⟨h1,by simpa using h2⟩
  | succ q=>exact .inr ⟨q,by simpa using hq,by rw [show k+1+q=k+(q+1) by omega];exact h1,by simpa using h2⟩
theorem Cd (last:Nat)(cs:List Nat)(x y:Nat):∀ (bs:List Nat) (i:Nat),jw last cs x y i bs=true↔∃ p,p<bs.length/\(bs.getD p 0-2<=x/\x<bs.getD p 0-2+5)/\iM last (i+p) y 0 cs=true:=by
 intro bs
 induction bs with
 | nil=>intro i;simp [jw]
 | cons a bs ih=>
  intro i;rw [jw,MF,MG,decide_eq_true_eq,ih];constructor
  ·rintro (⟨h1,h2⟩ | ⟨q,hq,h1,h2⟩)
   ·exact⟨0,by simp,by simpa using h1,h2⟩
   exact⟨q+1,by simpa using hq,by simpa using h1,by rw [show i+(q+1)=i+1+q by omega];exact h2⟩
  rintro⟨q,hq,h1,h2⟩;cases q with
  | zero=>exact .inl ⟨by simpa using h1,h2⟩
  | succ q=>exact .inr ⟨q,by simpa using hq,by simpa using h1,by rw [show i+1+q=i+(q+1) by omega];exact h2⟩
theorem wl (last i k:Nat):gA last i k=gA last k i:=by
 unfold gA;rw [decide_eq_decide];omega
theorem Ce (cs:List Nat)(x y:Nat):iU cs cs.length 0 x y=jW cs x y:=by
 rw [Mz,na];unfold jW;rw [Cd];constructor
 ·rintro⟨p,q,hp,hq,_,h1,h2⟩;unfold dz at h2;rw [decide_eq_true_eq] at h2;refine⟨q,hq,⟨h2.1,h2.2.1⟩,?_⟩;rw [wk];exact⟨p,hp,by rw [Nat.zero_add,Nat.zero_add,wl];exact h1,h2.2.2⟩
 rintro⟨q,hq,h1,h2⟩;rw [wk] at h2;obtain⟨p,hp,h3,h4⟩:=h2;refine⟨p,q,hp,hq,.inl hp,by rw [Nat.zero_add,Nat.zero_add,wl] at h3;exact h3,?_⟩
 unfold dz;rw [decide_eq_true_eq];exact⟨h1.1,h1.2,h4⟩
theorem lE (w:World)(g b wd ht l t n' m':Nat)(left top n m:Int)(f:Nat->Nat->Bool)(G:aQ w g b wd ht f)(e1:left=(l:Int))(e2:top=(t:Int))(e3:n=(n':Int))(e4:m=(m':Int))(h2:1<=n')(h3:1<=m')(h4:l+n'<=wd)(h5:t+m'<=ht)(hw:wd<=1000)(hh:ht<=1000) :
  Calls Tryz.prog 142 #[.pointer (some ⟨g,0,none⟩),.int .i64 left,.int .i64 top,.int .i64 n,.int .i64 m] w fun e w'=>e=.returned .nilIface/\aQ w' g b wd ht (fun a c=>dz l t n' m' a c || f a c)/\af w w' b:=by
 subst e1 e2 e3 e4;exact LE w g b wd ht l t n' m' f G h2 h3 h4 h5 hw hh
theorem Cf (w:World)(n:Nat)(h1:1<=n)(h2:n<=1000):Calls Tryz.prog 141 #[.int .i64 (n:Int)] w fun e w'=>e=.returned (.tuple #[.pointer (some ⟨w.heap.size+1,0,none⟩),.nilIface])/\aQ w' (w.heap.size+1) w.heap.size n n (fun _ _=>false)/\Below w.heap.size w w':=by
 have k:=AI w n n h1 h1 h2 h2
 go_enter Tryz.func141,Tryz.ntmps141
 go_wp2_with (go_at_call 147;refine k.mono ?_;rintro e w' ⟨rfl,hG,hB⟩)
 have HG:=Mw hG;clear hG
 go_ret2
 exact⟨rfl,HG.out,hB⟩
def lF (n x y:Nat):Bool:=dz 0 (n-8) 9 8 x y || (dz (n-8) 0 8 9 x y || dz 0 0 9 9 x y)
set_option maxHeartbeats 4000000 in
theorem Cg (w:World)(pv v:Nat)(hv:1<=v/\v<=40)(hV:bT w pv (v:Int) (dw v)) :
  Calls Tryz.prog 92 #[.pointer (some ⟨pv,0,none⟩)] w fun e w'=>∃ g b,e=.returned (.tuple #[.pointer (some ⟨g,0,none⟩),.nilIface])/\w.heap.size<=b/\b<g/\aQ w' g b (17+4*v) (17+4*v) (bM v (bA v))/\Below w.heap.size w w':=by
 have kd:=Al w pv v _ hV hv;obtain⟨hrow,hlen,hcs⟩:=B9 v hv;obtain⟨gc,ge,gg,hB,hC,_⟩:=hV;rw [hrow] at hB hC;rw [ey] at hB;obtain⟨cs,hcsd⟩:∃ cs,bA v=cs:=⟨_,rfl⟩;rw [hcsd] at hB hC hlen hcs;obtain⟨n,hn⟩:∃ n,17+4*v=n:=⟨_,rfl⟩;rw [hn] at kd hcs ⊢;obtain⟨mx,hmx⟩:∃ mx,cs.length=mx:=⟨_,rfl⟩;rw [hmx] at hB hlen;have hn1:21<=n:=by omega
 have hn2:n<=177:=by omega
 have hC':ag w gc cs:=hC;have HC:=Mw hC';have HB:=Mw hB;have HCS:=Mw hcs;have HCD:=Mw hcsd;have HN:=Mw hn;have HMX:=Mw hmx;have HROW:=Mw hrow;obtain⟨hv1,hv2⟩:=hv;have c0:w.cell? ⟨pv,0,none⟩=some (.int .i64 (v:Int)):=hB.cell 0;clear hC hC' hB hcs hcsd hn hmx hrow
 go_enter Tryz.func92,Tryz.ntmps92
 go_wp2_with fail
 refine kd.mono ?_;rintro e w' ⟨rfl,rfl⟩
 go_wp2_with fail
 refine (Cf w n (by omega) (by omega)).mono ?_;rintro e w1 ⟨rfl,hG,hB1⟩;obtain⟨g,hg⟩:∃ g,g=w.heap.size+1:=⟨_,rfl⟩;obtain⟨b,hb⟩:∃ b,b=w.heap.size:=⟨_,rfl⟩;rw [<- hg,<- hb] at hG;rw [<- hg];have HG1:=Mw hG;have HB1:=Mw hB1;have HGE:=Mw hg;have HBE:=Mw hb;clear hG hB1 hg hb kd
 go_wp2_with fail
 refine (lE w1 g b n n 0 0 9 9 _ _ _ _ _ HG1.out (by omega) (by omega) (by omega) (by omega) (by omega) (by omega) (by omega) (by omega) (by omega) (by omega)).mono ?_;rintro e w2 ⟨rfl,hG2,hT2⟩;have HG2:=Mw hG2;have HT2:=Mw hT2;clear hG2 hT2
 go_wp2_with fail
 refine (lE w2 g b n n (n-8) 0 8 9 _ _ _ _ _ HG2.out (by omega) (by omega) (by omega) (by omega) (by omega) (by omega) (by omega) (by omega) (by omega) (by omega)).mono ?_;rintro e w3 ⟨rfl,hG3,hT3⟩;have HG3:=Mw hG3;have HT3:=Mw (HT2.out.trans hT3);clear hG3 hT3
 go_wp2_with fail
 refine (lE w3 g b n n 0 (n-8) 9 8 _ _ _ _ _ HG3.out (by omega) (by omega) (by omega) (by omega) (by omega) (by omega) (by omega) (by omega) (by omega) (by omega)).mono ?_;rintro e w4 ⟨rfl,hG4,hT4⟩;have HG4:=Mw (show aQ w4 g b n n (fun x y=>iU cs 0 0 x y || lF n x y) from hG4.congr fun x y _ _=>by rw [Ca,Bool.false_or];unfold lF;simp only [Bool.or_false])
 have HT4:=Mw (HT3.out.trans hT4);have hlb:w.heap.size<=b:=by have:=HBE.out;omega
 have HLT:=Mw hlb;clear hG4 hT4;have hver:∀ W,af w1 W b->Blk W pv 154 #[.int .i64 (v:Int),.slice (some ⟨gc,0,none⟩) mx mx,.slice (some ⟨ge,0,none⟩) 4 4,.int .i64 (nA (dw v))]/\ag W gc cs:=by
  intro W hT;have a1:=HB.out.below HB1.out HB.out.lt;have a2:ag w1 gc cs:=Blk.below HC.out HB1.out (Blk.lt HC.out);have l1:=HB.out.lt;have l2:=Blk.lt HC.out;exact⟨hT.blk a1 (by omega),hT.blk a2 (by omega)⟩
 have HVER:=Mw hver;clear hver hlb c0;obtain⟨v1,v2⟩:=HVER.out w4 HT4.out;have c1:w4.cell? ⟨pv,1,none⟩=some (.slice (some ⟨gc,0,none⟩) mx mx):=v1.cell 1;clear v1 v2
 go_wp2_with fail
 clear c1
 go_loopw [8] (fun vx wr=>∃ X:Nat,X<=mx/\vx=.int .i64 (X:Int)/\Aside0 (aQ wr g b n n (fun x y=>iU cs X 0 x y || lF n x y))/\Aside0 (af w1 wr b)) (fun vx _=>(mx-intOf vx).toNat)
 case atStart=>exact⟨0,by omega,rfl,HG4,HT4⟩
 case round=>
  obtain⟨X,hX,rfl,HGX,HTX⟩:=hrel;obtain⟨k1,k2⟩:=HVER.out wr HTX.out;by_cases hlt:X<mx;rotate_left
  ·have:X=mx:=by omega
   subst this;clear k1 k2;have HGA:=Mw (show aQ wr g b n n (fun x y=>jW cs x y || lF n x y) from HGX.out.congr fun x y _ _=>by rw [<- HMX.out,Ce])
   go_wp2_with fail
   refine (lE wr g b n n 6 9 1 (n-17) _ _ _ _ _ HGA.out (by omega) (by omega) (by omega) (by omega) (by omega) (by omega) (by omega) (by omega) (by omega) (by omega)).mono ?_;rintro e w6 ⟨rfl,hG6,hT6⟩;have HG6:=Mw hG6;have HT6:=Mw (HTX.out.trans hT6);clear hG6 hT6
   go_wp2_with fail
   refine (lE w6 g b n n 9 6 (n-17) 1 _ _ _ _ _ HG6.out (by omega) (by omega) (by omega) (by omega) (by omega) (by omega) (by omega) (by omega) (by omega) (by omega)).mono ?_;rintro e w7 ⟨rfl,hG7,hT7⟩;have HG7:=Mw hG7;have HT7:=Mw (HT6.out.trans hT7);clear hG7 hT7;obtain⟨k1,k2⟩:=HVER.out w7 HT7.out;have c0:w7.cell? ⟨pv,0,none⟩=some (.int .i64 (v:Int)):=k1.cell 0;clear k1 k2;have hbel:∀ W,af w1 W b->Below w.heap.size w W:=fun W hT=>HB1.out.trans (hT.below HLT.out)
   have HBEL:=Mw hbel;clear hbel;by_cases h6:6<v;rotate_left
   ·go_wp2_with fail
    go_ret2
    refine⟨g,b,rfl,by have:=HLT.out;omega,by have:=HGE.out;have:=HBE.out;omega,HG7.out.congr fun x y _ _=>?_,HBEL.out w7 HT7.out⟩
    have hn:=HN.out;unfold bM lF;rw [HCD.out,decide_eq_false h6,show 4*v+9=n-8 by omega,show 4*v=n-17 by omega,Bool.false_and,Bool.or_false]
    ac_rfl
   go_wp2_with fail
   refine (lE w7 g b n n (n-11) 0 3 6 _ _ _ _ _ HG7.out (by omega) (by omega) (by omega) (by omega) (by omega) (by omega) (by omega) (by omega) (by omega) (by omega)).mono ?_;rintro e w8 ⟨rfl,hG8,hT8⟩;have HG8:=Mw hG8;have HT8:=Mw (HT7.out.trans hT8);clear hG8 hT8
   go_wp2_with fail
   refine (lE w8 g b n n 0 (n-11) 6 3 _ _ _ _ _ HG8.out (by omega) (by omega) (by omega) (by omega) (by omega) (by omega) (by omega) (by omega) (by omega) (by omega)).mono ?_;rintro e w9 ⟨rfl,hG9,hT9⟩;have HG9:=Mw hG9;have HT9:=Mw (HT8.out.trans hT9);clear hG9 hT9
   go_wp2_with fail
   go_ret2
   refine⟨g,b,rfl,by have:=HLT.out;omega,by have:=HGE.out;have:=HBE.out;omega,HG9.out.congr fun x y _ _=>?_,HBEL.out w9 HT9.out⟩
   have hn:=HN.out;unfold bM lF;rw [HCD.out,decide_eq_true h6,show 4*v+9=n-8 by omega,show 4*v+6=n-11 by omega,show 4*v=n-17 by omega,Bool.true_and]
   ac_rfl
  have c1:wr.cell? ⟨pv,1,none⟩=some (.slice (some ⟨gc,0,none⟩) mx mx):=k1.cell 1;have cX:=k2.cell X (by have:=HMX.out;omega)
  have hmem:cs.getD X 0∈cs:=by
   have:X<cs.length:=by have:=HMX.out;omega
   rw [My,ML this];exact List.getElem_mem this
  obtain⟨hx1,hx2⟩:=HCS.out _ hmem;obtain⟨cx,hcx⟩:∃ cx,cs.getD X 0=cx:=⟨_,rfl⟩;rw [hcx] at cX hx1 hx2;have HCX:=Mw hcx;clear hcx hmem k1 k2
  go_wp2_with fail
  clear c1 cX
  go_loopw [10] (fun vy wi=>∃ Y:Nat,Y<=mx/\vy=.int .i64 (Y:Int)/\Aside0 (aQ wi g b n n (fun x y=>iU cs X Y x y || lF n x y))/\Aside0 (af w1 wi b)) (fun vy _=>(mx-intOf vy).toNat)
  case atStart=>exact⟨0,by omega,rfl,HGX,HTX⟩
  case round=>
   obtain⟨Y,hY,rfl,HGY,HTY⟩:=hrel;obtain⟨k1,k2⟩:=HVER.out wr HTY.out;by_cases hltY:Y<mx;rotate_left
   ·have:Y=mx:=by omega
    subst this
    go_wp2
    go_roundw
    case rel=>exact⟨X+1,by omega,by go_num,⟨HGY.out.congr fun x y _ _=>by rw [<- Cb,HMX.out]⟩,HTY⟩
    case measure=>simp [intOf];omega
   have c1:wr.cell? ⟨pv,1,none⟩=some (.slice (some ⟨gc,0,none⟩) mx mx):=k1.cell 1;have cY:=k2.cell Y (by have:=HMX.out;omega)
   have hmem:cs.getD Y 0∈cs:=by
    have:Y<cs.length:=by have:=HMX.out;omega
    rw [My,ML this];exact List.getElem_mem this
   obtain⟨hy1,hy2⟩:=HCS.out _ hmem;obtain⟨cy,hcy⟩:∃ cy,cs.getD Y 0=cy:=⟨_,rfl⟩;rw [hcy] at cY hy1 hy2;have HCY:=Mw hcy;have hstep:=fun x y=>Cc cs X Y x y (by have:=HMX.out;omega) (by have:=HMX.out;omega)
   have HSTEP:=Mw hstep;obtain⟨b1,e1⟩:∃ b,((X:Int)==0)=b:=⟨_,rfl⟩;obtain⟨b2,e2⟩:∃ b,((Y:Int)==0)=b:=⟨_,rfl⟩;obtain⟨b3,e3⟩:∃ b,((Y:Int)==(mx:Int)-1)=b:=⟨_,rfl⟩;obtain⟨b4,e4⟩:∃ b,((X:Int)==(mx:Int)-1)=b:=⟨_,rfl⟩;have hcor:gA (cs.length-1) X Y=((b1 && (b2 || b3)) || (b4 && b2)):=by
    have q1:b1=decide (X=0):=by rw [<- e1];exact lA X
    have q2:b2=decide (Y=0):=by rw [<- e2];exact lA Y
    have q3:b3=decide (Y=cs.length-1):=by
     rw [<- e3,HMX.out,Mz,decide_eq_true_eq,beq_iff_eq];omega
    have q4:b4=decide (X=cs.length-1):=by
     rw [<- e4,HMX.out,Mz,decide_eq_true_eq,beq_iff_eq];omega
    rw [q1,q2,q3,q4,Mz];unfold gA;simp only [MF,MG,decide_eq_true_eq]
   have HCOR:=Mw hcor;clear hcy hmem k1 k2 hstep hcor;have kr:=fun (W:World) (GG:aQ W g b n n (fun x y=>iU cs X Y x y || lF n x y))=>lE W g b n n (cy-2) (cx-2) 5 5 ((cy:Int)-2) ((cx:Int)-2) 5 5 _ GG (by omega) (by omega) (by omega) (by omega) (by omega) (by omega) (by omega) (by omega) (by omega) (by omega)
   have HKR:=Mw kr;clear kr;cases b1<;>cases b2<;>cases b3<;>cases b4
   all_goals
    go_wp2_with (go_at_call 142;refine (HKR.out wr HGY.out).mono ?_;rintro e w' ⟨rfl,hG5,hT5⟩)
    go_roundw
    case rel=>first
     | exact⟨Y+1,by omega,by go_num,⟨HGY.out.congr fun x y _ _=>by rw [HSTEP.out,HCOR.out];rfl⟩,HTY⟩
     | exact⟨Y+1,by omega,by go_num,⟨hG5.congr fun x y _ _=>by rw [HSTEP.out,HCOR.out,HCX.out,HCY.out,Bool.or_assoc];rfl⟩,⟨HTY.out.trans hT5⟩⟩
    case measure=>simp [intOf];omega
def kD (L:List Bool)(i:Nat):Nat:=aJ (fun k=>L.getD (8*i+k) false) 8
def gL (L:List Bool):Nat:=aJ (fun k=>L.getD (8*(L.length/8)+k) false) (L.length%8)
def fk (T:Nat)(L:List Bool):List Nat:=(Mx (L.length/8)).map (kD L)++MH (T-L.length/8) 0
theorem sP (L:List Bool)(b:Bool)(i:Nat)(h:i<L.length):(L++[b]).getD i false=L.getD i false:=by
 rw [My,My,MI h]
theorem wm (L:List Bool)(b:Bool):(L++[b]).getD L.length false=b:=by
 rw [My,MC (MA _),Nat.sub_self];rfl
theorem wn (L:List Bool)(b:Bool)(i:Nat)(h:i<L.length/8):kD (L++[b]) i=kD L i:=by
 unfold kD;exact mD 8 fun k hk=>sP L b _ (by omega)
theorem Ch (L:List Bool):gL L<128:=by
 unfold gL;have h1:=Ap (fun k=>L.getD (8*(L.length/8)+k) false) (L.length%8);have h2:2 ^ (L.length%8)<=2 ^ 7:=Nat.pow_le_pow_right (by omega) (by omega);omega
theorem wu (L:List Bool)(b:Bool)(h:L.length%8=7):2*gL L+b.toNat=kD (L++[b]) (L.length/8):=by
 unfold kD gL;rw [h,aJ];congr 1
 ·congr 1;exact mD 7 fun k hk=>(sP L b _ (by omega)).symm
 show b.toNat=((L++[b]).getD (8*(L.length/8)+7) false).toNat;rw [show 8*(L.length/8)+7=L.length by omega,wm]
theorem wv (L:List Bool)(b:Bool)(h:L.length%8≠7):gL (L++[b])=2*gL L+b.toNat/\(L++[b]).length/8=L.length/8/\(L++[b]).length%8=L.length%8+1:=by
 have hl:(L++[b]).length=L.length+1:=by simp
 have h1:(L++[b]).length/8=L.length/8:=by omega
 have h2:(L++[b]).length%8=L.length%8+1:=by omega
 refine⟨?_,h1,h2⟩;unfold gL;rw [h1,h2,aJ];congr 1
 ·congr 1;exact mD _ fun k hk=>sP L b _ (by omega)
 show ((L++[b]).getD (8*(L.length/8)+L.length%8) false).toNat=b.toNat;rw [show 8*(L.length/8)+L.length%8=L.length by omega,wm]
theorem Ci (L:List Bool)(h:L.length%8=0):gL L=0:=by unfold gL;rw [h];rfl
theorem Cj (T:Nat)(L:List Bool)(h:L.length/8<=T):(fk T L).length=T:=by unfold fk;simp;omega
theorem Ck (T:Nat)(L:List Bool)(b:Bool)(h:L.length%8≠7):fk T (L++[b])=fk T L:=by
 unfold fk;rw [(wv L b h).2.1];congr 1;apply MD;intro i hi;rw [List.mem_range] at hi;exact wn L b i hi
theorem Cl (T:Nat)(L:List Bool)(b:Bool)(h:L.length%8=7)(hT:L.length/8<T):(fk T L).set (L.length/8) (2*gL L+b.toNat)=fk T (L++[b]):=by
 have hl:(L++[b]).length=L.length+1:=by simp
 have h1:(L++[b]).length/8=L.length/8+1:=by omega
 unfold fk;rw [h1,wu L b h];have hm:((Mx (L.length/8)).map (kD L)).length=L.length/8:=by simp
 rw [List.set_append_right _ _ (by omega),hm,Nat.sub_self,show T-L.length/8=(T-(L.length/8+1))+1 by omega,List.replicate_succ,List.set_cons_zero,MB,List.map_append,List.append_assoc];congr 1;apply MD;intro i hi;rw [List.mem_range] at hi;exact (wn L b i hi).symm
theorem Cm (n:Nat)(g:Nat->Nat->Bool)(rt:Nat)(up:Bool)(c:Nat):∀ d,(bR n g rt up c).length<=(bR n g rt up (c+d)).length:=by
 intro d
 induction d with
 | zero=>exact MA _
 | succ d ih=>
  rw [<- Nat.add_assoc,bR,ME];omega
def mB (g:Nat->Nat->Bool)(rt r t:Nat):List (Nat×Nat):=([(r,rt),(r,rt-1)].take t).filter fun p=>!g p.2 p.1
theorem ww (g:Nat->Nat->Bool)(rt r:Nat):mB g rt r 2=jx g rt r:=rfl
theorem wB (g:Nat->Nat->Bool)(rt r t:Nat)(h:t<2):mB g rt r (t+1)=mB g rt r t++(if g (rt-t) r then [] else [(r,rt-t)]):=by
 match t,h with
 | 0,_=>
  show [(r,rt)].filter _=[]++_;simp only [List.filter_cons,List.filter_nil,List.nil_append,Nat.sub_zero];cases g rt r<;>rfl
 | 1,_=>
  show [(r,rt),(r,rt-1)].filter _=[(r,rt)].filter _++_;simp only [List.filter_cons,List.filter_nil];cases g rt r<;>cases g (rt-1) r<;>rfl
theorem Cn (g:Nat->Nat->Bool)(rt r t:Nat)(h:t<=2):(mB g rt r t).length<=(jx g rt r).length:=by
 match t,h with
 | 0,_=>exact Nat.zero_le _
 | 1,_=>
  rw [<- ww,wB g rt r 1 (by omega),ME];omega
 | 2,_=>exact MA _
def fo (f:Nat->Nat->Bool)(l:List (Nat×Nat)):List Bool:=l.map fun p=>f p.2 p.1
theorem qe (f:Nat->Nat->Bool)(l:List (Nat×Nat)):(fo f l).length=l.length:=by simp [fo]
theorem sQ (f:Nat->Nat->Bool)(l k:List (Nat×Nat)):fo f (l++k)=fo f l++fo f k:=by simp [fo]
theorem Co:∀ v:Fin 40,nA (dw (v.val+1))=((bW (v.val+1)/8:Nat):Int)/\bW (v.val+1)<=40000:=by decide +kernel
theorem jp (v:Nat)(hv:1<=v/\v<=40):nA (dw v)=((bW v/8:Nat):Int)/\bW v<=40000:=by
 have:=Co ⟨v-1,by omega⟩;simp only [show v-1+1=v by omega] at this;exact this
structure bk (w w':World)(g b:Nat):Prop where
 os:w'.os=w.os
 tape:w'.tape=w.tape
 output:w'.output=w.output
 size:w.heap.size<=w'.heap.size
 block:∀ k,k<w.heap.size->k≠g->k≠b->w'.heap[k]? = w.heap[k]?
theorem bk.of {w w':World}{g:Nat}(h:aC w w' g)(b:Nat):bk w w' g b:=⟨h.os,h.tape,h.output,h.size,fun k hk h1 _=>h.block k hk h1⟩
theorem bk.of' {w w':World}{b:Nat}(h:aC w w' b)(g:Nat):bk w w' g b:=⟨h.os,h.tape,h.output,h.size,fun k hk _ h2=>h.block k hk h2⟩
theorem bk.trans {x y z:World}{g b:Nat}(h:bk x y g b)(k:bk y z g b):bk x z g b :=
 ⟨k.os.trans h.os,k.tape.trans h.tape,k.output.trans h.output,Nat.le_trans h.size k.size,fun i hi h1 h2=>(k.block i (Nat.lt_of_lt_of_le hi h.size) h1 h2).trans (h.block i hi h1 h2)⟩
theorem bk.blk {w w':World}{g b q:Nat}{t:TypeId}{cs:Array Value}(h:bk w w' g b)(hq:Blk w q t cs)(h1:q≠g)(h2:q≠b):Blk w' q t cs:=(h.block q hq.lt h1 h2).trans hq
theorem bk.below {w0 w w':World}{g b B:Nat}(h:bk w w' g b)(hb:Below B w0 w)(hg:B<=g)(hb2:B<=b)(hB:B<=w.heap.size):Below B w0 w' :=
 ⟨h.os.trans hb.os,h.tape.trans hb.tape,h.output.trans hb.output,Nat.le_trans hb.size h.size,fun k hk=>(h.block k (by omega) (by omega) (by omega)).trans (hb.block k hk)⟩
theorem bT.upd2 {w w':World}{p b pv:Nat}{n:Int}{v:eo}{cs cs2:Array Value}(h:bT w pv n v)(hu:bk w w' p b)(hp:Blk w p 144 cs)(hb:Blk w b 214 cs2):bT w' pv n v:=by
 obtain⟨gc,ge,g,h1,h2,h3,h4⟩:=h;exact⟨gc,ge,g,hu.blk h1 (bd h1 hp (by decide)) (bd h1 hb (by decide)),hu.blk h2 (bd h2 hp (by decide)) (bd h2 hb (by decide)),hu.blk h3 (bd h3 hp (by decide)) (bd h3 hb (by decide)),
  fun l hl=>hu.blk (h4 l hl) (bd (h4 l hl) hp (by decide)) (bd (h4 l hl) hb (by decide))⟩
def aA (w:World)(g:Nat)(xs:List Nat):Prop:=Blk w g 5 (ac .u8 (ak xs)).toArray
theorem aA.cell {w:World}{g:Nat}{xs:List Nat}(h:aA w g xs)(i:Nat)(hi:i<xs.length):w.cell? ⟨g,i,none⟩=some (.int .u8 ((xs.getD i 0:Nat):Int)):=by
 have:=Blk.ucell h (i:Int) (by omega) (by rw [ey];omega)
 rw [Int.toNat_natCast] at this;rw [this,<- Au];unfold rd;rw [Int.toNat_natCast]
theorem aA.set {w:World}{g:Nat}{xs:List Nat}(h:aA w g xs)(i v:Nat):aA (w.setCell ⟨g,i,none⟩ (.int .u8 (v:Int))) g (xs.set i v):=by
 have:=Blk.uset h i (v:Int);unfold aA;rw [show ak (xs.set i v)=(ak xs).set i (v:Int) from by simp [ak,List.map_set]];exact this
theorem Cp:(Tryz.prog.info? 5).map (fun i=>(i.zero,i.size,i.bytes))=some (some (.int .u8 0),1,1):=by kernel_rfl
theorem nc (n:Nat)(h:n<=1000000000)(w:World):(Instr.makeSlice 26 (.int .i64 (n:Int)) (.int .i64 (n:Int))).run Tryz.prog w=.ok (.slice (some ⟨w.heap.size,0,none⟩) n n) (w.alloc (.cells (ac .u8 (ak (MH n 0))).toArray 5)):=by
 obtain⟨i,hi,hz,hs,hb⟩:=info_parts Cp;have:=mH (P:=Tryz.prog) 26 5 i (.int .u8 0) Tryz.underlying26 hi hz .i64 .i64 n n (MA _) (by rw [hb];omega) (by omega) w
 have e:madeCells (Value.int .u8 0).cells (n*1)=(ac .u8 (ak (MH n 0))).toArray:=by
  apply Array.toList_inj.1;rw [Nat.mul_one];exact (toList_madeCells_one _ _).trans (by simp [ac,ak])
 rw [this,hs,e]
theorem sR (w:World)(pv n T:Nat)(v:eo)(h:bT w pv (n:Int) v)(hT:nA v=(T:Int)):Calls Tryz.prog 93 #[.pointer (some ⟨pv,0,none⟩)] w fun e w'=>e=.returned (.int .i64 (T:Int))/\w=w':=by
 obtain⟨gc,ge,g,h1,_⟩:=h;rw [hT] at h1;have c3:w.cell? ⟨pv,3,none⟩=some (.int .i64 (T:Int)):=h1.cell 3;clear h1 hT
 go_enter Tryz.func93,Tryz.ntmps93
 go_wp2
 go_ret
 exact⟨rfl,rfl⟩
def lvIx (l:Nat):Nat:=if l=0 then 1 else if l=1 then 0 else if l=2 then 3 else 2
def lG (v l:Nat):Int×List (Int×Int):=(dw v).2.getD (lvIx l) (0,[])
def aW (v l:Nat):Nat:=(lG v l).1.toNat
def av (v l:Nat):Nat:=((lG v l).2.getD 0 (0,0)).1.toNat
def aN (v l:Nat):Nat:=((lG v l).2.getD 0 (0,0)).2.toNat
def aE (v l:Nat):Nat:=((lG v l).2.getD 1 (0,0)).1.toNat
structure Lay (v l e c d c2:Nat):Prop where
 row:lG v l=((e:Int),if c2=0 then [((c:Int),(d:Int))] else [((c:Int),(d:Int)),((c2:Int),((d+1:Nat):Int))])
 e1:1<=e
 e2:e<=100
 c1:1<=c
 cc:c+c2<=100
 d1:1<=d
 d2:d<=200
 tot:d*(c+c2)+c2+e*(c+c2)=bW v/8
theorem Cq:∀ v:Fin 40,∀ l:Fin 4,(lG (v.val+1) l.val=((aW (v.val+1) l.val:Int),if aE (v.val+1) l.val=0 then [((av (v.val+1) l.val:Int),(aN (v.val+1) l.val:Int))] else [((av (v.val+1) l.val:Int),(aN (v.val+1) l.val:Int)),((aE (v.val+1) l.val:Int),((aN (v.val+1) l.val+1:Nat):Int))]))/\
  1<=aW (v.val+1) l.val/\aW (v.val+1) l.val<=100/\1<=av (v.val+1) l.val/\av (v.val+1) l.val+aE (v.val+1) l.val<=100/\1<=aN (v.val+1) l.val/\aN (v.val+1) l.val<=200/\
  ((aN (v.val+1) l.val*(av (v.val+1) l.val+aE (v.val+1) l.val)+aE (v.val+1) l.val+aW (v.val+1) l.val*(av (v.val+1) l.val+aE (v.val+1) l.val):Nat):Int)=nA (dw (v.val+1)):=by decide +kernel
theorem eD (v l:Nat)(hv:1<=v/\v<=40)(hl:l<4):Lay v l (aW v l) (av v l) (aN v l) (aE v l):=by
 have h:=Cq ⟨v-1,by omega⟩ ⟨l,hl⟩;simp only [show v-1+1=v by omega] at h;obtain⟨h1,h2,h3,h4,h5,h6,h7,h8⟩:=h;refine⟨h1,h2,h3,h4,h5,h6,h7,?_⟩;have:=(jp v hv).1;rw [this] at h8;exact Int.ofNat.inj h8
section
variable (c d c2 e:Nat)
def dl (j:Nat):Nat:=if j<c then d else d+1
def dK (j x:Nat):Nat:=if x<d then x*(c+c2)+j else if x<dl c d j then d*(c+c2)+(j-c) else d*(c+c2)+c2+(x-dl c d j)*(c+c2)+j
def dD (ws:List Nat)(off j:Nat):List Nat:=(Mx (dl c d j+e)).map fun x=>if dK c d c2 j x<off then ws.getD (dK c d c2 j x) 0 else 0
end
theorem wC {n X Y i j:Nat}(hi:i<n)(hj:j<n)(h:X*n+i=Y*n+j):X=Y/\i=j:=by
 have h1:=congrArg (·/n) h;have h2:=congrArg (·%n) h;rw [Nat.add_comm (X*n),Nat.add_comm (Y*n),Nat.add_mul_div_right _ _ (by omega),Nat.add_mul_div_right _ _ (by omega),Nat.div_eq_of_lt hi,Nat.div_eq_of_lt hj] at h1;rw [Nat.add_comm (X*n),Nat.add_comm (Y*n),Nat.add_mul_mod_self_right,Nat.add_mul_mod_self_right,Nat.mod_eq_of_lt hi,Nat.mod_eq_of_lt hj] at h2;omega
theorem lH {n X d i:Nat}(hi:i<n)(h:X<d):X*n+i<d*n:=by
 have:=Nat.mul_le_mul_right n (show X+1<=d by omega);rw [Nat.add_mul,Nat.one_mul] at this;omega
theorem Cr {c d c2 e j x:Nat}(hj:j<c+c2)(hx:x<dl c d j+e):dK c d c2 j x<d*(c+c2)+c2+e*(c+c2):=by
 unfold dK
 split
 ·rename_i h
  have:=lH hj h;omega
 split
 rotate_left
 ·rename_i h1 h2
  have:=lH hj (show x-dl c d j<e by omega);omega
 rename_i h1 h2
 have:j-c<c2:=by
  unfold dl at h2
  split at h2<;>omega
 omega
theorem wD {c d c2 j x j' x':Nat}(hj:j<c+c2)(hj':j'<c+c2)(h:dK c d c2 j x=dK c d c2 j' x'):j=j'/\x=x':=by
 have k1:x<d->x*(c+c2)+j<d*(c+c2):=fun hx=>lH hj hx
 have k2:x'<d->x'*(c+c2)+j'<d*(c+c2):=fun hx=>lH hj' hx
 have t1:¬ x<d->x<dl c d j->c<=j/\x=d:=by
  intro a b;unfold dl at b
  split at b<;>omega
 have t2:¬ x'<d->x'<dl c d j'->c<=j'/\x'=d:=by
  intro a b;unfold dl at b
  split at b<;>omega
 unfold dK at h;by_cases a1:x<d
 ·rw [if_pos a1] at h;by_cases b1:x'<d
  ·rw [if_pos b1] at h;have:=wC hj hj' h;omega
  rw [if_neg b1] at h;have:=k1 a1;by_cases b2:x'<dl c d j'
  ·rw [if_pos b2] at h;omega
  rw [if_neg b2] at h;omega
 rw [if_neg a1] at h;by_cases a2:x<dl c d j
 ·rw [if_pos a2] at h;have u1:=t1 a1 a2;by_cases b1:x'<d
  ·rw [if_pos b1] at h;have:=k2 b1;omega
  rw [if_neg b1] at h;by_cases b2:x'<dl c d j';rotate_left
  ·rw [if_neg b2] at h;omega
  rw [if_pos b2] at h;have u2:=t2 b1 b2;omega
 rw [if_neg a2] at h;by_cases b1:x'<d
 ·rw [if_pos b1] at h;have:=k2 b1;omega
 rw [if_neg b1] at h;by_cases b2:x'<dl c d j'
 ·rw [if_pos b2] at h;have u2:=t2 b1 b2;omega
 rw [if_neg b2] at h;have:=wC hj hj' (show (x-dl c d j)*(c+c2)+j=(x'-dl c d j')*(c+c2)+j' by omega);obtain⟨r1,r2⟩:=this;subst r2;exact⟨rfl,by omega⟩
theorem wE (c d c2 e:Nat)(ws:List Nat)(off j:Nat):(dD c d c2 e ws off j).length=dl c d j+e:=by simp [dD]
theorem Cs (c d c2 e:Nat)(ws:List Nat)(j:Nat):dD c d c2 e ws 0 j=MH (dl c d j+e) 0:=by
 unfold dD;apply MJ
 ·simp
 intro i h1 h2;simp
theorem Ct {c d c2 e:Nat}(ws:List Nat){off j x:Nat}(hj:j<c+c2)(hx:dK c d c2 j x=off):dD c d c2 e ws (off+1) j=(dD c d c2 e ws off j).set x (ws.getD off 0):=by
 unfold dD;apply MJ
 ·simp
 intro i h1 h2;rw [List.getElem_set];simp only [List.getElem_map,List.getElem_range];by_cases hxi:x=i
 ·subst hxi;rw [if_pos rfl,hx,if_pos (by omega)]
 rw [if_neg hxi];have hne:dK c d c2 j i≠off:=fun hc=>hxi (wD hj hj (hx.trans hc.symm)).2
 by_cases hlt:dK c d c2 j i<off
 ·rw [if_pos hlt,if_pos (by omega)]
 rw [if_neg hlt,if_neg (by omega)]
theorem Cu {c d c2 e:Nat}(ws:List Nat){off j x j':Nat}(hj:j<c+c2)(hj':j'<c+c2)(hx:dK c d c2 j x=off)(hne:j'≠j):dD c d c2 e ws (off+1) j'=dD c d c2 e ws off j':=by
 unfold dD;apply MD;intro i hi;have hne:dK c d c2 j' i≠off:=fun hc=>hne (wD hj' hj (hc.trans hx.symm)).1
 by_cases hlt:dK c d c2 j' i<off
 ·rw [if_pos hlt,if_pos (by omega)]
 rw [if_neg hlt,if_neg (by omega)]
def cB (c d c2 e:Nat)(ws:List Nat)(j:Nat):List Nat:=(Mx (dl c d j+e)).map fun x=>ws.getD (dK c d c2 j x) 0
theorem wF {c d c2 e:Nat}(ws:List Nat){j:Nat}(hj:j<c+c2):dD c d c2 e ws (d*(c+c2)+c2+e*(c+c2)) j=cB c d c2 e ws j:=by
 unfold dD cB;apply MD;intro x hx;rw [if_pos (Cr hj (List.mem_range.1 hx))]
theorem wG (w:World)(g o:Nat)(ec:Int)(h:w.cell? ⟨g,o,none⟩=some (.int .i64 ec)):Calls Tryz.prog 158 #[.pointer (some ⟨g,o,none⟩)] w fun e w'=>e=.returned (.int .i64 ec)/\w=w':=by
 go_enter Tryz.func158,Tryz.ntmps158
 go_wp2
 go_ret
 exact⟨rfl,rfl⟩
theorem Cv (w:World)(g o:Nat)(v:Value)(h:w.cell? ⟨g,o+1,none⟩=some v):Calls Tryz.prog 159 #[.pointer (some ⟨g,o,none⟩)] w fun e w'=>e=.returned v/\w=w':=by
 go_enter Tryz.func159,Tryz.ntmps159
 go_wp2
 go_ret
 exact⟨rfl,rfl⟩
def oH (w:World)(a o:Nat)(r:Int×List (Int×Int)):Prop:=∃ g,(∃ es,Blk w a 224 es/\es[o]? = some (.int .i64 r.1)/\es[o+1]? = some (.slice (some ⟨g,0,none⟩) r.2.length r.2.length))/\Blk w g 221 (fb r.2).toArray
theorem oH.below {w w':World}{a o B:Nat}{r:Int×List (Int×Int)}(h:oH w a o r)(hb:Below B w w')(hB:w.heap.size<=B):oH w' a o r:=by
 obtain⟨g,⟨es,h1,h2,h3⟩,h4⟩:=h;exact⟨g,⟨es,h1.below hb (by have:=h1.lt;omega),h2,h3⟩,h4.below hb (by have:=h4.lt;omega)⟩
theorem Cw (v:eo)(g:Nat->Nat)(h:v.2.length=4)(k:Nat)(hk:k<4):(tD v g)[2*k]? = some (.int .i64 (v.2.getD k (0,[])).1)/\(tD v g)[2*k+1]? = some (.slice (some ⟨g k,0,none⟩) (v.2.getD k (0,[])).2.length (v.2.getD k (0,[])).2.length):=by
 obtain⟨cs,bs⟩:=v;obtain⟨b0,b1,b2,b3,rfl⟩:∃ b0 b1 b2 b3,bs=[b0,b1,b2,b3]:=by
  match bs,h with
  | [b0,b1,b2,b3],_=>exact⟨b0,b1,b2,b3,rfl⟩
 match k,hk with
 | 0,_=>exact⟨rfl,rfl⟩
 | 1,_=>exact⟨rfl,rfl⟩
 | 2,_=>exact⟨rfl,rfl⟩
 | 3,_=>exact⟨rfl,rfl⟩
theorem Cx (v:Nat)(hv:1<=v/\v<=40):q8 (dw v):=by
 refine yu _ ?_;unfold dw;have hl:i9.length=40:=by kernel_rfl
 rw [My,ML (show v-1<i9.length by omega)];exact List.getElem_mem _
theorem Cy (w:World)(pv v l:Nat)(h:bT w pv (v:Int) (dw v))(hv:1<=v/\v<=40)(hl:l<4) :
  Calls Tryz.prog 170 #[.pointer (some ⟨pv,0,none⟩),.int .i64 (l:Int)] w fun e w'=>(∃ a o,e=.returned (.pointer (some ⟨a,o,none⟩))/\oH w a o (lG v l))/\w=w':=by
 obtain⟨gc,ge,g,h1,h2,h3,h4⟩:=h;have hok:=Cx v hv;have c2:w.cell? ⟨pv,2,none⟩=some (.slice (some ⟨ge,0,none⟩) 4 4):=h1.cell 2;have lev:∀ k,k<4->oH w ge (2*k) ((dw v).2.getD k (0,[])):=fun k hk=>by
  obtain⟨e1,e2⟩:=Cw (dw v) g hok.four k hk;exact⟨g k,⟨_,h3,e1,e2⟩,h4 k hk⟩
 have LEV:=Mw lev;clear h1 h2 h3 h4 hok lev hv
 go_enter Tryz.func170,Tryz.ntmps170
 match l,hl with
 | 0,_=>
  go_wp2
  go_ret
  exact⟨⟨ge,_,rfl,LEV.out 1 (by decide)⟩,rfl⟩
 | 1,_=>
  go_wp2
  go_ret
  exact⟨⟨ge,_,rfl,LEV.out 0 (by decide)⟩,rfl⟩
 | 2,_=>
  go_wp2
  go_ret
  exact⟨⟨ge,_,rfl,LEV.out 3 (by decide)⟩,rfl⟩
 | 3,_=>
  go_wp2
  go_ret
  exact⟨⟨ge,_,rfl,LEV.out 2 (by decide)⟩,rfl⟩
theorem Cz (w:World)(d:Int)(g n:Nat):Calls Tryz.prog 171 #[.int .i64 d,.slice (some ⟨g,0,none⟩) n n] w fun e w'=>e=.returned (.pointer (some ⟨w.heap.size,0,none⟩))/\w'=w.alloc (.cells #[.int .i64 d,.slice (some ⟨g,0,none⟩) n n] 270):=by
 go_enter Tryz.func171,Tryz.ntmps171
 go_wp2
 go_ret
 exact⟨rfl,rfl⟩
theorem wH (w:World)(p:Nat)(d:Int)(v:Value)(h:Blk w p 270 #[.int .i64 d,v]):Calls Tryz.prog 163 #[.pointer (some ⟨p,0,none⟩)] w fun e w'=>e=.returned (.int .i64 d)/\w=w':=by
 have c0:w.cell? ⟨p,0,none⟩=some (.int .i64 d):=h.cell 0;clear h
 go_enter Tryz.func163,Tryz.ntmps163
 go_wp2
 go_ret
 exact⟨rfl,rfl⟩
theorem CA (w:World)(p:Nat)(d v:Value)(h:Blk w p 270 #[d,v]):Calls Tryz.prog 164 #[.pointer (some ⟨p,0,none⟩)] w fun e w'=>e=.returned v/\w=w':=by
 have c0:w.cell? ⟨p,1,none⟩=some v:=h.cell 1;clear h
 go_enter Tryz.func164,Tryz.ntmps164
 go_wp2
 go_ret
 exact⟨rfl,rfl⟩
def oI (k:Nat)(p:Nat->Nat)(i:Nat):Value:=if i<k then .pointer (some ⟨p i,0,none⟩) else .pointer none
def iV (k n:Nat)(p:Nat->Nat):List Value:=(Mx n).map (oI k p)
theorem CB:(Tryz.prog.info? 257).map (fun i=>(i.zero,i.size,i.bytes))=some (some (.pointer none),1,8):=by kernel_rfl
theorem CC (n:Nat)(h:n<=100000000)(w:World):(Instr.makeSlice 254 (.int .i64 (n:Int)) (.int .i64 (n:Int))).run Tryz.prog w=.ok (.slice (some ⟨w.heap.size,0,none⟩) n n) (w.alloc (.cells (iV 0 n (fun _=>0)).toArray 257)):=by
 obtain⟨i,hi,hz,hs,hb⟩:=info_parts CB;have:=mH (P:=Tryz.prog) 254 257 i (.pointer none) Tryz.underlying254 hi hz .i64 .i64 n n (MA _) (by rw [hb];omega) (by omega) w
 have e:madeCells (Value.pointer none).cells (n*1)=(iV 0 n (fun _=>0)).toArray:=by
  apply Array.toList_inj.1;rw [Nat.mul_one];refine (toList_madeCells_one _ _).trans ?_;unfold iV;apply MJ
  ·simp
  intro i h1 h2;simp [oI]
 rw [this,hs,e]
structure bm (w:World)(g B k n:Nat)(p q d:Nat->Nat)(cw:Nat->List Nat):Prop where
 row:Blk w g 257 (iV k n p).toArray
 blk:∀ i,i<k->Blk w (p i) 270 #[.int .i64 (d i:Int),.slice (some ⟨q i,0,none⟩) (cw i).length (cw i).length]
 word:∀ i,i<k->aA w (q i) (cw i)
 fresh:∀ i,i<k->B<=q i
 inj:∀ i j,i<k->j<k->q i=q j->i=j
theorem bm.below {w w':World}{g B k n C:Nat}{p q d:Nat->Nat}{cw:Nat->List Nat}(h:bm w g B k n p q d cw)(hb:Below C w w')(hC:w.heap.size<=C):bm w' g B k n p q d cw :=
 ⟨h.row.below hb (by have:=h.row.lt;omega),fun i hi=>(h.blk i hi).below hb (by have:=(h.blk i hi).lt;omega),fun i hi=>Blk.below (h.word i hi) hb (by have:=Blk.lt (h.word i hi);omega),h.fresh,h.inj⟩
def jR (p:Nat->Nat)(k x:Nat)(i:Nat):Nat:=if i=k then x else p i
theorem CD (k n x:Nat)(p:Nat->Nat)(hk:k<n):(iV k n p).set k (.pointer (some ⟨x,0,none⟩))=iV (k+1) n (jR p k x):=by
 unfold iV;apply MJ
 ·simp
 intro i h1 h2;rw [List.getElem_set];simp only [List.getElem_map,List.getElem_range];unfold oI jR;by_cases hi:k=i
 ·subst hi;rw [if_pos rfl,if_pos (by omega),if_pos rfl]
 rw [if_neg hi];by_cases hlt:i<k
 ·rw [if_pos hlt,if_pos (by omega),if_neg (by omega)]
 rw [if_neg hlt,if_neg (by omega)]
theorem bm.add {w:World}{g B k n:Nat}{p q d:Nat->Nat}{cw:Nat->List Nat}(h:bm w g B k n p q d cw)(hk:k<n)(hB:B<=w.heap.size) :
  bm (((w.alloc (.cells (ac .u8 (ak (cw k))).toArray 5)).alloc (.cells #[.int .i64 (d k:Int),.slice (some ⟨w.heap.size,0,none⟩) (cw k).length (cw k).length] 270)).setCell ⟨g,k,none⟩ (.pointer (some ⟨w.heap.size+1,0,none⟩))) g B (k+1) n (jR p k (w.heap.size+1)) (jR q k w.heap.size) d cw:=by
 obtain⟨w1,hw1⟩:∃ w1,w1=w.alloc (.cells (ac .u8 (ak (cw k))).toArray 5):=⟨_,rfl⟩;obtain⟨w2,hw2⟩:∃ w2,w2=w1.alloc (.cells #[.int .i64 (d k:Int),.slice (some ⟨w.heap.size,0,none⟩) (cw k).length (cw k).length] 270):=⟨_,rfl⟩;rw [<- hw1,<- hw2];have hb1:Below w.heap.size w w1:=by rw [hw1];exact ai (Below.refl _ _) _
 have hs1:w1.heap.size=w.heap.size+1:=by rw [hw1];simp
 have hb2:Below w.heap.size w w2:=by rw [hw2];exact ai hb1 _
 have n1:aA w1 w.heap.size (cw k):=by rw [hw1];exact Blk.new _ _ _
 have n1':aA w2 w.heap.size (cw k):=by rw [hw2];exact Blk.alloc n1 _
 have n2:Blk w2 (w.heap.size+1) 270 #[.int .i64 (d k:Int),.slice (some ⟨w.heap.size,0,none⟩) (cw k).length (cw k).length]:=by rw [hw2,<- hs1];exact Blk.new _ _ _
 have h2:=h.below hb2 (MA _);have hgl:=h.row.lt;refine⟨?_,fun i hi=>?_,fun i hi=>?_,fun i hi=>?_,fun i j hi hj he=>?_⟩
 ·rw [<- CD k n _ p hk];have:=bK h2.row k (.pointer (some ⟨w.heap.size+1,0,none⟩));unfold Blk;rw [this];simp
 ·unfold jR;by_cases hik:i=k
  ·subst hik;rw [if_pos rfl,if_pos rfl];exact n2.far (p:=⟨g,i,none⟩) (show w.heap.size+1≠g by omega) _
  rw [if_neg hik,if_neg hik];have e:=bd (h2.blk i (by omega)) h2.row (by decide);exact (h2.blk i (by omega)).far (p:=⟨g,k,none⟩) e _
 ·unfold jR;by_cases hik:i=k
  ·subst hik;rw [if_pos rfl];exact Blk.far (p:=⟨g,i,none⟩) n1' (show w.heap.size≠g by omega) _
  rw [if_neg hik];have e:=bd (h2.word i (by omega)) h2.row (by decide);exact Blk.far (p:=⟨g,k,none⟩) (h2.word i (by omega)) e _
 ·unfold jR
  split
  ·exact hB
  exact h.fresh i (by omega)
 unfold jR at he;have lt:∀ x,x<k->q x<w.heap.size:=fun x hx=>Blk.lt (h.word x hx)
 by_cases hik:i=k
 ·by_cases hjk:j=k
  ·omega
  rw [if_pos hik,if_neg hjk] at he;have:=lt j (by omega);omega
 by_cases hjk:j=k
 ·rw [if_neg hik,if_pos hjk] at he;have:=lt i (by omega);omega
 rw [if_neg hik,if_neg hjk] at he;exact h.inj i j (by omega) (by omega) he
theorem bm.set {w:World}{g B n:Nat}{p q d:Nat->Nat}{cw cw':Nat->List Nat}(h:bm w g B n n p q d cw){j x v:Nat}(hj:j<n)(h1:cw' j=(cw j).set x v)(h2:∀ i,i<n->i≠j->cw' i=cw i) :
  bm (w.setCell ⟨q j,x,none⟩ (.int .u8 (v:Int))) g B n n p q d cw':=by
 have hl:∀ i,i<n->(cw' i).length=(cw i).length:=fun i hi=>by
  by_cases hij:i=j
  ·rw [hij,h1,List.length_set]
  rw [h2 i hi hij]
 have hw:=h.word j hj;have eg:=bd h.row hw (by decide);refine⟨h.row.far (p:=⟨q j,x,none⟩) eg _,fun i hi=>?_,fun i hi=>?_,h.fresh,h.inj⟩
 ·rw [hl i hi];have e:=bd (h.blk i hi) hw (by decide);exact (h.blk i hi).far (p:=⟨q j,x,none⟩) e _
 by_cases hij:i=j
 ·subst hij;rw [h1];exact hw.set x v
 rw [h2 i hi hij];exact Blk.far (p:=⟨q j,x,none⟩) (h.word i hi) (fun hc=>hij (h.inj i j hi hj hc)) _
theorem bm.ptr {w:World}{g B k n:Nat}{p q d:Nat->Nat}{cw:Nat->List Nat}(h:bm w g B k n p q d cw){i:Nat}(hi:i<k)(hn:i<n):w.cell? ⟨g,i,none⟩=some (.pointer (some ⟨p i,0,none⟩)):=by
 rw [h.row.cell i];simp [iV,hn,oI,hi]
theorem nf {α:Type}(n:Nat)(g:Nat->Nat->α):∀ a,((Mx a).flatMap fun i=>(Mx n).map (g i)).length=a*n:=by
 intro a
 induction a with
 | zero=>simp
 | succ a ih=>rw [MB,MK,ME,ih];simp [Nat.add_mul]
theorem wI (n:Nat)(g:Nat->Nat->Nat)(i k:Nat)(hk:k<n):∀ a,i<a->((Mx a).flatMap fun i=>(Mx n).map (g i)).getD (i*n+k) 0=g i k:=by
 intro a
 induction a with
 | zero=>intro h;omega
 | succ a ih=>
  intro h;rw [MB,MK,My];by_cases hi:i<a;rotate_left
  ·obtain rfl:i=a:=by omega
   rw [MC (by rw [nf];omega),nf,show i*n+k-i*n=k by omega]
   simp [hk]
  have hl:i*n+k<((Mx a).flatMap fun i=>(Mx n).map (g i)).length:=by
   rw [nf];exact lH hk hi
  rw [MI hl,<- My];exact ih hi
def gM (c d c2 e:Nat)(code:Nat->Nat->Nat):List Nat :=
 ((Mx (d+1)).flatMap fun i=>(Mx (c+c2)).flatMap fun k=>if i<dl c d k then [code k i] else [])++((Mx e).flatMap fun i=>(Mx (c+c2)).map fun k=>code k (dl c d k+i))
theorem qg {α β:Type}(l:List α)(f g:α->List β)(h:∀ x∈l,f x=g x):l.flatMap f=l.flatMap g:=by
 induction l with
 | nil=>rfl
 | cons x l ih=>rw [List.flatMap_cons,List.flatMap_cons,h x (by simp),ih (fun y hy=>h y (by simp [hy]))]
theorem CE (n:Nat)(p:Nat->Prop)[DecidablePred p](g:Nat->Nat)(h:∀ k,k<n->p k):((Mx n).flatMap fun k=>if p k then [g k] else [])=(Mx n).map g:=by
 rw [List.map_eq_flatMap];apply qg;intro k hk;rw [if_pos (h k (List.mem_range.1 hk))]
theorem CF (c d:Nat)(g:Nat->Nat):∀ c2,((Mx (c+c2)).flatMap fun k=>if d<dl c d k then [g k] else [])=(Mx c2).map fun t=>g (c+t):=by
 intro c2
 induction c2 with
 | zero=>
  rw [Nat.add_zero,List.range_zero,List.map_nil,List.flatMap_eq_nil_iff];intro k hk;rw [if_neg];unfold dl;rw [if_pos (List.mem_range.1 hk)];omega
 | succ c2 ih=>
  rw [<- Nat.add_assoc,MB,MK,ih,MB,List.map_append];congr 1;have:d<dl c d (c+c2):=by unfold dl;rw [if_neg (by omega)];omega
  simp [this]
theorem sS (c d c2 e:Nat)(code:Nat->Nat->Nat):gM c d c2 e code =
  ((Mx d).flatMap fun i=>(Mx (c+c2)).map fun k=>code k i)++((Mx c2).map fun t=>code (c+t) d)++((Mx e).flatMap fun i=>(Mx (c+c2)).map fun k=>code k (dl c d k+i)):=by
 unfold gM;congr 1;rw [MB,MK];congr 1;rotate_left
 ·rw [List.flatMap_cons,List.flatMap_nil,List.append_nil];exact CF c d (fun k=>code k d) c2
 apply qg;intro i hi;have hi:=List.mem_range.1 hi;exact CE (c+c2) (fun k=>i<dl c d k) (fun k=>code k i) (fun k _=>by unfold dl;split<;>omega)
theorem sT (c d c2 e:Nat)(code:Nat->Nat->Nat):(gM c d c2 e code).length=d*(c+c2)+c2+e*(c+c2):=by
 rw [sS,ME,ME,nf (c+c2) (fun i k=>code k i),nf (c+c2) (fun i k=>code k (dl c d k+i))];simp
theorem CG (c d c2 e:Nat)(code:Nat->Nat->Nat)(j x:Nat)(hj:j<c+c2)(hx:x<dl c d j+e):(gM c d c2 e code).getD (dK c d c2 j x) 0=code j x:=by
 have l1:=nf (c+c2) (fun i k=>code k i) d;rw [sS,My,List.append_assoc];unfold dK;by_cases h1:x<d
 ·rw [if_pos h1,MI (by rw [l1];exact lH hj h1),<- My]
  exact wI (c+c2) (fun i k=>code k i) x j hj d h1
 rw [if_neg h1];by_cases h2:x<dl c d j
 ·have h3:c<=j/\x=d:=by
   unfold dl at h2
   split at h2<;>omega
  rw [if_pos h2,MC (by rw [l1];omega),l1,show d*(c+c2)+(j-c)-d*(c+c2)=j-c by omega,MI (by simp;omega)]
  simp only [List.getElem?_map];rw [List.getElem?_range (by omega)];simp only [Option.map_some,Option.getD_some];rw [show c+(j-c)=j by omega,h3.2]
 rw [if_neg h2,MC (by rw [l1];omega),l1,MC (by simp;omega)]
 rw [show d*(c+c2)+c2+(x-dl c d j)*(c+c2)+j-d*(c+c2)-((Mx c2).map fun t=>code (c+t) d).length=(x-dl c d j)*(c+c2)+j by simp;omega,<- My]
 rw [wI (c+c2) (fun i k=>code k (dl c d k+i)) (x-dl c d j) j hj e (by omega)];rw [show dl c d j+(x-dl c d j)=x by omega]
theorem wJ (c d c2 e:Nat)(code:Nat->Nat->Nat)(j:Nat)(hj:j<c+c2):cB c d c2 e (gM c d c2 e code) j=(Mx (dl c d j+e)).map (code j):=by
 unfold cB;apply MD;intro x hx;exact CG c d c2 e code j x hj (List.mem_range.1 hx)
end Go.Proofs.YtgccjgpdjkhpdaaGreat.B
