import Derived.BigQuiet
import Derived.Test.YtgccjgpdjkhpdaaGreatVErrors31
open Go.Proofs.YtgccjgpdjkhpdaaGreatW.PrintWords.Aside0 renaming mk→Mw
open List renaming length_append→Mx
open Int renaming toNat_natCast→My
/-! Own texts of this claim, part 32. -/
namespace Go.Proofs.YtgccjgpdjkhpdaaGreat.B
open Go.RowKit Go.Proofs.YtgccjgpdjkhpdaaGreatW.PrintWords Go.Proofs.YtgccjgpdjkhpdaaGreatW.PrintLast Go.Proofs.YtgccjgpdjkhpdaaGreatW.PrintMore
set_option linter.unusedVariables false
set_option linter.unusedSimpArgs false
theorem tV {w wx:World}{a:Addr}{v:Value}(hb:Below w.heap.size w wx)(h:w.cell? a=some v):wx.cell? a=some v:=(hb.cell (World.block_lt_of_cell? _ _ h)).trans h
def bI (s:F.bl):Sg:=⟨s.f0.toNat,s.f1⟩
structure lh (s:F.bl)(v:Nat):Prop where
 mode:s.f0=1\/s.f0=2\/s.f0=4
 num:s.f0=1->∀ x∈s.f1,jV x
 al:s.f0=2->∀ x∈s.f1,bn x<45
 by_:∀ x∈s.f1,0<=x/\x<=255
 len:s.f1.length<2 ^ aw s.f0.toNat v
 short:s.f1.length<=2000
theorem lh.ok {s:F.bl}{v:Nat}(h:lh s v):(bI s).Ok v:=by
 refine⟨?_,fun hm=>h.num ?_,fun hm=>h.al ?_,h.by_,h.len⟩
 ·rcases h.mode with e | e | e<;>simp [bI,e]
 ·have hm:s.f0.toNat=1:=hm;rcases h.mode with e | e | e<;>omega
 have hm:s.f0.toNat=2:=hm;rcases h.mode with e | e | e<;>omega
structure gY (w wr:World)(v6:Value)(bits:List Bool)(p:Nat)(m:Int)(A:Option Addr)(n c:Nat):Prop where
 own:cJ wr w.heap.size v6 bits
 bel:Below w.heap.size w wr
 box:Blk wr p 98 #[.int .i64 m,.slice A n c]
theorem cJ.under {w w':World}{base:Nat}{v:Value}{xs:List Bool}(h:cJ w base v xs)(hb:Below w.heap.size w w'):cJ w' base v xs:=ei h fun k hk=>by
 obtain⟨cs,hc⟩:=eM h k hk;exact hb.block k hc.lt
section
variable {w wr:World} {v6:Value} {bits:List Bool} {p:Nat} {m:Int} {A:Option Addr} {n c:Nat}
theorem gY.under {w':World}(h:gY w wr v6 bits p m A n c)(hb:Below wr.heap.size wr w'):gY w w' v6 bits p m A n c :=
 ⟨h.own.under hb,h.bel.trans (hb.mono h.bel.size),h.box.below hb h.box.lt⟩
theorem gY.drew (h:gY w wr v6 bits p m A n c):gY w wr.drew v6 bits p m A n c:=h.under ⟨rfl,rfl,rfl,Nat.le_refl _,fun _ _=>rfl⟩
theorem zr {N k:Nat}{a b:Int}(h:gY w wr v6 bits p m A n c)(ha:a=(N:Int))(hb:b=(k:Int))(hn:N<2147483648)(hk:k<=60)(hxl:bits.length<=9000000) :
  Calls Tryz.prog 66 #[v6,.int .i64 a,.int .i64 b] wr fun e w'=>∃ v',e=.returned v'/\gY w w' v' (bits++aD N k) p m A n c:=by
 subst ha hb;refine (tM w wr w.heap.size N k v6 bits h.own h.bel h.bel.size hn hk (by omega)).mono ?_;rintro e w' ⟨v',rfl,h1,h2,h3⟩;exact⟨v',rfl,h1,h2,(h3.by_.block p h.box.lt (own_ne h.own h.box (by decide))).trans h.box⟩
theorem Hb {s:F.bl}{v:Nat}(h:gY w wr v6 bits p m A n c)(hs:lh s v)(hm:s.f0=m)(hn:s.f1.length=n)(hc:n<=c)(hC:Kd.C (Kd.int .u8) w A n s.f1)(hxl:bits.length<=8000000) :
  Calls Tryz.prog 123 #[v6,.agg #[.int .i64 m,.slice A n c]] wr fun e w'=>∃ v',e=.returned v'/\cJ w' w.heap.size v' (bits++dN (bI s))/\Below w.heap.size w w':=by
 have hsh:=hs.short;rcases hs.mode with e | e | e
 ·have hd:dN (bI s)=bH s.f1:=by simp [dN,bI,e]
  rw [<- hm,e,hd];refine (G9 w wr v6 bits A c n s.f1 hn hc hC h.bel h.own h.bel.size (hs.num e) (by omega)).mono ?_;rintro e w' ⟨v',rfl,h1,h2,h3⟩;exact⟨v',rfl,h1,h2⟩
 rotate_left
 ·have hd:dN (bI s)=fS s.f1:=by simp [dN,bI,e]
  rw [<- hm,e,hd];refine (GM w wr v6 bits A c n s.f1 hn hc hC h.bel h.own h.bel.size hs.by_ (by omega)).mono ?_;rintro e w' ⟨v',rfl,h1,h2,h3⟩;exact⟨v',rfl,h1,h2⟩
 have hd:dN (bI s)=cK s.f1:=by simp [dN,bI,e]
 rw [<- hm,e,hd];refine (Ha w wr v6 bits A c n s.f1 hn hc hC h.bel h.own h.bel.size (hs.al e) (by omega)).mono ?_;rintro e w' ⟨v',rfl,h1,h2,h3⟩;exact⟨v',rfl,h1,h2⟩
theorem Hc {s:F.bl}{v:Nat}(h:gY w wr v6 bits p m A n c)(hs:lh s v)(hm:s.f0=m)(hn:s.f1.length=n)(hC:Kd.C (Kd.int .u8) w A n s.f1) :
  Calls Tryz.prog 122 #[.agg #[.int .i64 m,.slice A n c]] wr fun e w'=>e=.returned (.bool true)/\gY w w' v6 bits p m A n c:=by
 have hsh:=hs.short;refine (GK wr m A c s.f1 n hn (by rw [<- hm];exact hs.mode) (Kd.bB hC h.bel) (fun e=>hs.num (by omega)) (fun e=>hs.al (by omega)) (by omega)).mono ?_
 rintro e w' ⟨rfl,hb⟩;exact⟨rfl,h.under hb⟩
theorem cntS {v k:Nat}(h:gY w wr v6 bits p m A n c)(hm:m=1\/m=2\/m=4)(hv:1<=v/\v<=40)(hk:aw m.toNat v=k) :
  Calls Tryz.prog 58 #[.int .i64 m,.int .i64 (v:Int)] wr fun e w'=>e=.returned (.tuple #[.int .i64 (k:Int),.bool true])/\gY w w' v6 bits p m A n c:=by
 refine (GJ wr m.toNat v m (by omega) (by omega) hv).mono ?_;rintro e w' ⟨rfl,hb⟩;exact⟨by rw [hk],h.under hb⟩
end
theorem Hd (s:Sg)(v:Nat)(h:s.text.length<=2000):(mM s v).length<=20000:=by
 have h1:=bQ s.mode v;have h2:(dN s).length<=8*s.text.length:=by
  unfold dN
  split
  ·have:=zo s.text;omega
  split
  ·have:=zq s.text;omega
  rw [ry];omega
 unfold mM;rw [Mx,Mx,bV,bV];omega
set_option maxHeartbeats 4000000 in
set_option maxRecDepth 8000 in
theorem zt (w:World)(A:Option Addr)(c n v:Nat)(l:List F.bl)(hl:Kd.C F.dU w A n l)(hn:l.length=n)(hv:1<=v/\v<=40)(hs:∀ s∈l,lh s v)(hn2:n<=200) :
  Calls Tryz.prog 67 #[.slice A n c,.int .i64 (v:Int)] w fun e w'=>∃ v',e=.returned (.tuple #[v',.bool true])/\cJ w' w.heap.size v' (cO (l.map bI) v)/\Below w.heap.size w w':=by
 have HC:=Mw hl;have HN:=Mw hn;have HS:=Mw hs;have HV:=Mw hv;clear hl hn hs hv
 go_enter Tryz.func67,Tryz.ntmps67
 go_wp2_with fail
 go_loopw [6,13] (fun v6 v13 wr=>∃ i:Nat,v13=.int .i64 (i:Int)/\i<=n/\Aside0 (cJ wr w.heap.size v6 (cO ((l.take i).map bI) v))/\Aside0 (Below w.heap.size w wr)/\Aside0 ((cO ((l.take i).map bI) v).length<=20000*i)) (fun _ v13 _=>(n-intOf v13).toNat)
 case atStart=>exact⟨0,rfl,Nat.zero_le _,⟨⟨rfl,.inl ⟨rfl,rfl⟩⟩⟩,⟨Below.refl _ _⟩,⟨by simp [cO]⟩⟩
 case round=>
  obtain⟨i,rfl,hi,HO,HB,HL⟩:=hrel;by_cases hin:i<n;rotate_left
  ·have:n=i:=by omega
   subst this;have HTK:=Mw (show l.take n=l by rw [<- HN.out,List.take_length])
   go_wp2
   go_ret2
   exact⟨_,rfl,by have:=HO.out;rw [HTK.out] at this;exact this,HB.out⟩
  obtain⟨ad,A1,c1,e0,r0,r1,l1,g1⟩:=F.nl HC.out (i:Int) (by omega) (by omega);rw [My] at r0 r1;obtain⟨s,hss⟩:∃ s,F.cC l i=s:=⟨_,rfl⟩;rw [hss] at r0 r1 l1 g1;have hgi:l[i]? = some s:=by
   have hlt:i<l.length:=by rw [HN.out];exact hin
   rw [List.getElem?_eq_getElem hlt,<- hss];unfold F.cC;rw [My,List.getD_eq_getElem?_getD,List.getElem?_eq_getElem hlt];rfl
  have hso:=HS.out s (List.mem_of_getElem? hgi);have HTK:=Mw (show cO ((l.take (i+1)).map bI) v=cO ((l.take i).map bI) v++mM (bI s) v by
   rw [List.take_add_one,hgi];simp [cO])
  obtain⟨m,hm⟩:∃ m,s.f0=m:=⟨_,rfl⟩;obtain⟨k,hk⟩:∃ k,s.f1.length=k:=⟨_,rfl⟩;obtain⟨cb,hcb⟩:∃ cb,aw m.toNat v=cb:=⟨_,rfl⟩;obtain⟨bits,hbits⟩:∃ bits,cO ((l.take i).map bI) v=bits:=⟨_,rfl⟩;have HNX:=Mw (show mM (bI s) v=aD m.toNat 4++(aD k cb++dN (bI s)) by unfold mM bI;rw [hm,hk,hcb])
  rw [hm] at r0;rw [hk] at r1 l1 g1;rw [hbits] at HO HL HTK;subst e0;replace r0:=tV HB.out r0;replace r1:=tV HB.out r1;have HSO:=Mw hso;have HM:=Mw hm;have HK:=Mw hk;have HCB:=Mw hcb;have HG:=Mw g1;have HBL:=Mw (show bits.length<=4000000 by have:=HL.out;omega)
  have hmm:m=1\/m=2\/m=4:=by rw [<- hm];exact hso.mode
  have hkc:k<2 ^ cb:=by rw [<- hk,<- hcb,<- hm];exact hso.len
  have hcb16:cb<=16:=by rw [<- hcb];exact (bQ _ _).2
  have hk2:k<=2000:=by rw [<- hk];exact hso.short
  obtain⟨P2,hP2⟩:∃ P2:Nat,2 ^ cb=P2:=⟨_,rfl⟩;have hP2i:((2:Int) ^ cb)=(P2:Int):=by rw [<- hP2];simp
  have hP3:P2<=65536:=by rw [<- hP2];exact Nat.le_trans (Nat.pow_le_pow_right (by decide) hcb16) (by decide)
  rw [hP2] at hkc;have hwp:IntKind.i64.wrap (2 ^ cb)=(P2:Int):=by rw [hP2i];exact IntWalk.i64_in _ (by omega)
  have HWP:=Mw hwp;clear hP2 hP2i hwp;obtain⟨wa,hwa⟩:∃ wa,wa=wr.alloc (.cells #[.int .i64 m,.slice A1 k c1] 98):=⟨_,rfl⟩;have HSM:=Mw (show gY w wa u6 bits wr.heap.size m A1 k c1 by
   rw [hwa];exact⟨HO.out.under (ai (Below.refl _ _) _),HB.out.alloc HB.out.size _,Blk.new _ _ _⟩)
  have HWA:=Mw hwa;have c0:=HSM.out.box.cell 0;clear hso hss hgi hm hk hcb hbits hwa g1
  go_wp2_with fail
  rw [<- HWA.out];refine (cntS HSM.out hmm HV.out HCB.out).mono ?_;rintro e w2 ⟨rfl,hM2⟩;have HM2:=Mw hM2;clear c0 hM2 r0 r1;have c0:=HM2.out.box.cell 0;have c1':=HM2.out.box.cell 1
  go_wp2_with fail
  have kf:=Hc HM2.out.drew HSO.out HM.out HK.out HG.out;have hwp:=HWP.out
  go_region_with (go_at_call 122;with_reducible (refine kf.mono ?_);rintro e w3 ⟨rfl,hM3⟩;have d0:=hM3.box.cell 0;have d1:=hM3.box.cell 1;have HM3:=Mw hM3;clear hM3)
  all_goals
   clear hwp c0 c1' kf
   go_wp2
   have hmN:m=((m.toNat:Nat):Int):=by omega
   have k1:=zr (N:=m.toNat) (k:=4) (a:=m) (b:=4) HM3.out.drew hmN rfl (by omega) (by decide) (by have:=HBL.out;omega)
   have HK2:=Mw (fun (W:World) (v1:Value) (hW:gY w W v1 (bits++aD m.toNat 4) wr.heap.size m A1 k c1)=>zr (N:=k) (k:=cb) (a:=(k:Int)) (b:=(cb:Int)) hW rfl rfl (by omega) (by omega) (by have:=HBL.out;rw [Mx,bV];omega))
   clear hmN
   go_region_with (first | (go_at_call 66;with_reducible (refine k1.mono ?_);rintro e w4 ⟨v1,rfl,hM4⟩;have e0:=hM4.box.cell 0;have e1:=hM4.box.cell 1;have HM4:=Mw hM4;clear hM4) | (go_at_call 66;with_reducible (refine (HK2.out _ _ HM4.out).mono ?_);rintro e w5 ⟨v2,rfl,hM5⟩;have HM5:=Mw hM5;clear hM5))
   all_goals
    clear k1 d0 d1;have g0:=HM5.out.box.cell 0;have g1:=HM5.out.box.cell 1;have kd:=Hb HM5.out HSO.out HM.out HK.out l1 HG.out (by have:=HBL.out;rw [Mx,Mx,bV,bV];omega)
    go_wp2_with (go_at_call 123;with_reducible (refine kd.mono ?_);rintro e w6 ⟨v3,rfl,hO6,hB6⟩;have HO6:=Mw hO6;have HB6:=Mw hB6;clear hO6 hB6)
    go_roundw
    case rel=>
     have ho:Aside0 (cJ w6 w.heap.size v3 (cO ((l.take (i+1)).map bI) v)):=⟨by rw [HTK.out,HNX.out];have:=HO6.out;simpa [List.append_assoc] using this⟩
     have hln:Aside0 ((cO ((l.take (i+1)).map bI) v).length<=20000*(i+1)):=⟨by rw [HTK.out,Mx];have:=HL.out;have h3:=Hd (bI s) v HSO.out.short;omega⟩
     first
      | exact⟨i+1,by go_num,by omega,ho,HB6,hln⟩
      | ((repeat apply Exists.intro);exact⟨⟨i+1,by go_num,by omega,ho,HB6,hln⟩,rfl⟩)
    case measure=>(show ((n:Int)-((i:Int)+1)).toNat<((n:Int)-(i:Int)).toNat;omega)
end Go.Proofs.YtgccjgpdjkhpdaaGreat.B
namespace Go.Proofs.YtgccjgpdjkhpdaaGreat.B
open Go.RowKit Go.Proofs.YtgccjgpdjkhpdaaGreatW.PrintWords Go.Proofs.YtgccjgpdjkhpdaaGreatW.PrintLast Go.Proofs.YtgccjgpdjkhpdaaGreatW.PrintMore
set_option linter.unusedVariables false
set_option linter.unusedSimpArgs false
section
variable {P:Program} {ops:Array Oper} {rest:List Oper} {o:Oper} {a:Act} {Q:Exit->Act->World->Prop} {W W':World}
theorem jX (hgd:o.guard=none)(t:TypeId)(ho:o.op=.alloc t)(v:Value)(hrun:(Instr.alloc t true (.tuple #[])).run P W=.ok v W')(k:wpList P ops Q rest (a.put o.dst v) W'):wpList P ops Q (o :: rest) a W:=by
 refine wpList_plain hgd fun K hK=>?_
 unfold Oper.wp;have e:(execOp a.eval o).run P W=.ok (.value v) W':=by
  unfold execOp;rw [ho];simp only [Sem.run_bind];show Result.andThen ((Instr.alloc t true (.tuple #[])).run P W) _=_;rw [hrun];rfl
 rw [e];exact hK _ _ k
theorem lT (hgd:o.guard=none)(t:TypeId)(parts:Array (Nat×Operand))(ho:o.op=.build t parts)
  (vals:Array (Nat×Value)) (hv:(parts.map fun p=>(p.1,a.eval p.2))=vals) (v:Value) (hrun:(Instr.build t vals).run P W=.ok v W') (k:wpList P ops Q rest (a.put o.dst v) W'):wpList P ops Q (o :: rest) a W:=by
 refine wpList_plain hgd fun K hK=>?_
 subst hv;unfold Oper.wp;have e:(execOp a.eval o).run P W=.ok (.value v) W':=by
  unfold execOp;rw [ho];simp only [Sem.run_bind];show Result.andThen ((Instr.build t (parts.map fun p=>(p.1,a.eval p.2))).run P W) _=_;rw [hrun];rfl
 rw [e];exact hK _ _ k
end
theorem rG {P:Program}{fn:Func}{p q:Tmp}{ty:TypeId}(h:fn.results=#[.cell p ty,.cell q ty])(tmps:Array Value)(w:World)(g g2:Nat)(t:TypeId)(cs cs2:Array Value)(m:Nat)(el:TypeId)
  (hp:tmps.getD p undef=.pointer (some ⟨g,0,none⟩)) (hq:tmps.getD q undef=.pointer (some ⟨g2,0,none⟩)) (hg:w.heap[g]? = some (.cells cs t (0,0))) (hg2:w.heap[g2]? = some (.cells cs2 t (0,0)))
  (hu:P.underlying ty=some (.array m el)) (hi:(P.info? ty).map (·.size)=some cs.size) (hi2:(P.info? ty).map (·.size)=some cs2.size) :
  (results fn tmps).run P w=.ok (.tuple #[.agg cs,.agg cs2]) w:=by
 have hp':tmps[p]?.getD undef=.pointer (some ⟨g,0,none⟩):=by simpa using hp
 have hq':tmps[q]?.getD undef=.pointer (some ⟨g2,0,none⟩):=by simpa using hq
 simp [results,h,hp',hq',asAddr,run_loadVar_row w g t ty cs (0,0) _ hg hu rfl hi,run_loadVar_row w g2 t ty cs2 (0,0) _ hg2 hu rfl hi2]
theorem gB {w:World}{g k:Nat}(cs:Array Value)(h:k≠g):(w.setRow g cs).heap[k]? = w.heap[k]?:=by
 unfold World.setRow;rw [Array.getElem?_modify];rw [if_neg (Ne.symm h)]
theorem jY {B:Nat}{w0 w:World}{g:Nat}(cs:Array Value)(h:Below B w0 w)(hg:B<=g):Below B w0 (w.setRow g cs):=⟨h.os,h.tape,h.output,by rw [setRow_size];exact h.size,fun k hk=>(gB cs (by omega)).trans (h.block k hk)⟩
def aU (l:List Int):Array Value:=(ac .i64 l).toArray
def ep:Array Value:=aU (List.replicate 40 0)
def dQ (l:List Int):Array (Nat×Value):=(l.zipIdx.map fun p=>(p.2,Value.int .i64 p.1)).toArray
def gC (l:List Int):Array (Nat×Operand):=(l.zipIdx.map fun p=>(p.2,Operand.const (.int .i64 p.1))).toArray
theorem jZ (W:World):(Instr.alloc 167 true (.tuple #[])).run Tryz.prog W=.ok (.pointer (some ⟨W.heap.size,0,none⟩)) (W.alloc (.cells ep 167)):=by kernel_rfl
theorem fw:(Tryz.prog.info? 167).map (·.size)=some 40:=by kernel_rfl
def jy:List Int:=[10,16,26,18,24,16,18,22,22,26,30,22,22,24,24,28,28,26,26,26,26,28,28,28,28,28,28,28,28,28,28,28,28,28,28,28,28,28,28,28]
def jz:List Int:=[1,1,1,2,2,4,4,4,5,5,5,8,9,9,10,10,11,13,14,16,17,17,18,20,21,23,25,26,28,29,31,33,35,37,38,40,43,45,47,49]
theorem He (a:Act):((gC jy).map fun p=>(p.1,a.eval p.2))=dQ jy:=by kernel_rfl
theorem Hf (W:World):(Instr.build 167 (dQ jy)).run Tryz.prog W=.ok (.agg (aU jy)) W:=by kernel_rfl
theorem tW:(aU jy).size=40:=by kernel_rfl
theorem Hg:(aU jy).all (·.oneCell')=true:=by kernel_rfl
theorem Hh (a:Act):((gC jz).map fun p=>(p.1,a.eval p.2))=dQ jz:=by kernel_rfl
theorem Hi (W:World):(Instr.build 167 (dQ jz)).run Tryz.prog W=.ok (.agg (aU jz)) W:=by kernel_rfl
theorem tX:(aU jz).size=40:=by kernel_rfl
theorem Hj:(aU jz).all (·.oneCell')=true:=by kernel_rfl
def jA:List Int:=[7,10,15,20,26,18,20,24,30,18,20,24,26,30,22,24,28,30,28,28,28,28,30,30,26,28,30,30,30,30,30,30,30,30,30,30,30,30,30,30]
def jB:List Int:=[1,1,1,1,1,2,2,2,2,4,4,4,4,4,6,6,6,6,7,8,8,9,9,10,12,12,12,13,14,15,16,17,18,19,19,20,21,22,24,25]
theorem Hk (a:Act):((gC jA).map fun p=>(p.1,a.eval p.2))=dQ jA:=by kernel_rfl
theorem Hl (W:World):(Instr.build 167 (dQ jA)).run Tryz.prog W=.ok (.agg (aU jA)) W:=by kernel_rfl
theorem tY:(aU jA).size=40:=by kernel_rfl
theorem Hm:(aU jA).all (·.oneCell')=true:=by kernel_rfl
theorem Hn (a:Act):((gC jB).map fun p=>(p.1,a.eval p.2))=dQ jB:=by kernel_rfl
theorem Ho (W:World):(Instr.build 167 (dQ jB)).run Tryz.prog W=.ok (.agg (aU jB)) W:=by kernel_rfl
theorem tZ:(aU jB).size=40:=by kernel_rfl
theorem Hp:(aU jB).all (·.oneCell')=true:=by kernel_rfl
def jC:List Int:=[17,28,22,16,22,28,26,26,24,28,24,28,22,24,24,30,28,28,26,28,30,24,30,30,30,30,30,30,30,30,30,30,30,30,30,30,30,30,30,30]
def jD:List Int:=[1,1,2,4,4,4,5,6,8,8,11,11,16,16,18,16,19,21,25,25,25,34,30,32,35,37,40,42,45,48,51,54,57,60,63,66,70,74,77,81]
theorem Hq (a:Act):((gC jC).map fun p=>(p.1,a.eval p.2))=dQ jC:=by kernel_rfl
theorem Hr (W:World):(Instr.build 167 (dQ jC)).run Tryz.prog W=.ok (.agg (aU jC)) W:=by kernel_rfl
theorem t4:(aU jC).size=40:=by kernel_rfl
theorem Hs:(aU jC).all (·.oneCell')=true:=by kernel_rfl
theorem Ht (a:Act):((gC jD).map fun p=>(p.1,a.eval p.2))=dQ jD:=by kernel_rfl
theorem Hu (W:World):(Instr.build 167 (dQ jD)).run Tryz.prog W=.ok (.agg (aU jD)) W:=by kernel_rfl
theorem t5:(aU jD).size=40:=by kernel_rfl
theorem Hv:(aU jD).all (·.oneCell')=true:=by kernel_rfl
def jE:List Int:=[13,22,18,26,18,24,18,22,20,24,28,26,24,20,30,24,28,28,26,30,28,30,30,30,30,28,30,30,30,30,30,30,30,30,30,30,30,30,30,30]
def jF:List Int:=[1,1,2,2,4,4,6,6,8,8,8,10,12,16,12,17,16,18,21,20,23,23,25,27,29,34,34,35,38,40,43,45,48,51,53,56,59,62,65,68]
theorem Hw (a:Act):((gC jE).map fun p=>(p.1,a.eval p.2))=dQ jE:=by kernel_rfl
theorem Hx (W:World):(Instr.build 167 (dQ jE)).run Tryz.prog W=.ok (.agg (aU jE)) W:=by kernel_rfl
theorem t7:(aU jE).size=40:=by kernel_rfl
theorem Hy:(aU jE).all (·.oneCell')=true:=by kernel_rfl
theorem Hz (a:Act):((gC jF).map fun p=>(p.1,a.eval p.2))=dQ jF:=by kernel_rfl
theorem Ia (W:World):(Instr.build 167 (dQ jF)).run Tryz.prog W=.ok (.agg (aU jF)) W:=by kernel_rfl
theorem t8:(aU jF).size=40:=by kernel_rfl
theorem Ib:(aU jF).all (·.oneCell')=true:=by kernel_rfl
set_option maxHeartbeats 4000000 in
set_option maxRecDepth 100000 in
theorem Ic (w:World):Calls Tryz.prog 101 #[.int .i64 0] w fun e w'=>e=.returned (.tuple #[.agg (aU jy),.agg (aU jz)])/\Below w.heap.size w w':=by
 go_enter Tryz.func101,Tryz.ntmps101
 go_wp2_with (first | ((with_reducible refine de (N:=2) rfl ?_);refine jX rfl 167 rfl _ (jZ _) ?_) | ((with_reducible refine de (N:=3) rfl ?_);refine jX rfl 167 rfl _ (jZ _) ?_) | ((with_reducible refine de (N:=11) rfl ?_);refine lT rfl 167 (gC jy) rfl (dQ jy) (He _) _ (Hf _) ?_) | ((with_reducible refine de (N:=12) rfl ?_);refine lT rfl 167 (gC jz) rfl (dQ jz) (Hh _) _ (Hi _) ?_) | (refine wpList_store_row rfl 167 (.tmp 2) (.tmp 11) rfl w.heap.size (aU jy) rfl rfl 167 ep (heap_alloc2_old _ _ _) (by rw [tW];exact fw) (by rw [tW];rfl) Hg ?_) | (refine wpList_store_row rfl 167 (.tmp 3) (.tmp 12) rfl (w.heap.size+1) (aU jz) rfl rfl 167 ep ((gB _ (by omega)).trans (heap_alloc2_new _ _ _)) (by rw [tX];exact fw) (by rw [tX];rfl) Hj ?_))
 refine bodyPost_ret (rG (p:=2) (q:=3) (ty:=167) rfl _ _ w.heap.size (w.heap.size+1) 167 _ _ 40 3 rfl rfl ((gB _ (by omega)).trans (setRow_heap _ _ _ _ 167 _ (heap_alloc2_old _ _ _))) (setRow_heap _ _ _ _ 167 _ ((gB _ (by omega)).trans (heap_alloc2_new _ _ _))) Tryz.underlying167 (by rw [tW];exact fw) (by rw [tX];exact fw)) rfl ⟨rfl,jY _ (jY _ (ai (ai (Below.refl _ _) _) _) (Nat.le_refl _)) (Nat.le_succ _)⟩
set_option maxHeartbeats 4000000 in
set_option maxRecDepth 100000 in
theorem Id (w:World):Calls Tryz.prog 101 #[.int .i64 1] w fun e w'=>e=.returned (.tuple #[.agg (aU jA),.agg (aU jB)])/\Below w.heap.size w w':=by
 go_enter Tryz.func101,Tryz.ntmps101
 go_wp2_with (first | ((with_reducible refine de (N:=2) rfl ?_);refine jX rfl 167 rfl _ (jZ _) ?_) | ((with_reducible refine de (N:=3) rfl ?_);refine jX rfl 167 rfl _ (jZ _) ?_) | ((with_reducible refine de (N:=7) rfl ?_);refine lT rfl 167 (gC jA) rfl (dQ jA) (Hk _) _ (Hl _) ?_) | ((with_reducible refine de (N:=8) rfl ?_);refine lT rfl 167 (gC jB) rfl (dQ jB) (Hn _) _ (Ho _) ?_) | (refine wpList_store_row rfl 167 (.tmp 2) (.tmp 7) rfl w.heap.size (aU jA) rfl rfl 167 ep (heap_alloc2_old _ _ _) (by rw [tY];exact fw) (by rw [tY];rfl) Hm ?_) | (refine wpList_store_row rfl 167 (.tmp 3) (.tmp 8) rfl (w.heap.size+1) (aU jB) rfl rfl 167 ep ((gB _ (by omega)).trans (heap_alloc2_new _ _ _)) (by rw [tZ];exact fw) (by rw [tZ];rfl) Hp ?_))
 refine bodyPost_ret (rG (p:=2) (q:=3) (ty:=167) rfl _ _ w.heap.size (w.heap.size+1) 167 _ _ 40 3 rfl rfl ((gB _ (by omega)).trans (setRow_heap _ _ _ _ 167 _ (heap_alloc2_old _ _ _))) (setRow_heap _ _ _ _ 167 _ ((gB _ (by omega)).trans (heap_alloc2_new _ _ _))) Tryz.underlying167 (by rw [tY];exact fw) (by rw [tZ];exact fw)) rfl ⟨rfl,jY _ (jY _ (ai (ai (Below.refl _ _) _) _) (Nat.le_refl _)) (Nat.le_succ _)⟩
set_option maxHeartbeats 4000000 in
set_option maxRecDepth 100000 in
theorem Ie (w:World):Calls Tryz.prog 101 #[.int .i64 2] w fun e w'=>e=.returned (.tuple #[.agg (aU jC),.agg (aU jD)])/\Below w.heap.size w w':=by
 go_enter Tryz.func101,Tryz.ntmps101
 go_wp2_with (first | ((with_reducible refine de (N:=2) rfl ?_);refine jX rfl 167 rfl _ (jZ _) ?_) | ((with_reducible refine de (N:=3) rfl ?_);refine jX rfl 167 rfl _ (jZ _) ?_) | ((with_reducible refine de (N:=17) rfl ?_);refine lT rfl 167 (gC jC) rfl (dQ jC) (Hq _) _ (Hr _) ?_) | ((with_reducible refine de (N:=18) rfl ?_);refine lT rfl 167 (gC jD) rfl (dQ jD) (Ht _) _ (Hu _) ?_) | (refine wpList_store_row rfl 167 (.tmp 2) (.tmp 17) rfl w.heap.size (aU jC) rfl rfl 167 ep (heap_alloc2_old _ _ _) (by rw [t4];exact fw) (by rw [t4];rfl) Hs ?_) | (refine wpList_store_row rfl 167 (.tmp 3) (.tmp 18) rfl (w.heap.size+1) (aU jD) rfl rfl 167 ep ((gB _ (by omega)).trans (heap_alloc2_new _ _ _)) (by rw [t5];exact fw) (by rw [t5];rfl) Hv ?_))
 refine bodyPost_ret (rG (p:=2) (q:=3) (ty:=167) rfl _ _ w.heap.size (w.heap.size+1) 167 _ _ 40 3 rfl rfl ((gB _ (by omega)).trans (setRow_heap _ _ _ _ 167 _ (heap_alloc2_old _ _ _))) (setRow_heap _ _ _ _ 167 _ ((gB _ (by omega)).trans (heap_alloc2_new _ _ _))) Tryz.underlying167 (by rw [t4];exact fw) (by rw [t5];exact fw)) rfl ⟨rfl,jY _ (jY _ (ai (ai (Below.refl _ _) _) _) (Nat.le_refl _)) (Nat.le_succ _)⟩
set_option maxHeartbeats 4000000 in
set_option maxRecDepth 100000 in
theorem Ig (w:World):Calls Tryz.prog 101 #[.int .i64 3] w fun e w'=>e=.returned (.tuple #[.agg (aU jE),.agg (aU jF)])/\Below w.heap.size w w':=by
 go_enter Tryz.func101,Tryz.ntmps101
 go_wp2_with (first | ((with_reducible refine de (N:=2) rfl ?_);refine jX rfl 167 rfl _ (jZ _) ?_) | ((with_reducible refine de (N:=3) rfl ?_);refine jX rfl 167 rfl _ (jZ _) ?_) | ((with_reducible refine de (N:=15) rfl ?_);refine lT rfl 167 (gC jE) rfl (dQ jE) (Hw _) _ (Hx _) ?_) | ((with_reducible refine de (N:=16) rfl ?_);refine lT rfl 167 (gC jF) rfl (dQ jF) (Hz _) _ (Ia _) ?_) | (refine wpList_store_row rfl 167 (.tmp 2) (.tmp 15) rfl w.heap.size (aU jE) rfl rfl 167 ep (heap_alloc2_old _ _ _) (by rw [t7];exact fw) (by rw [t7];rfl) Hy ?_) | (refine wpList_store_row rfl 167 (.tmp 3) (.tmp 16) rfl (w.heap.size+1) (aU jF) rfl rfl 167 ep ((gB _ (by omega)).trans (heap_alloc2_new _ _ _)) (by rw [t8];exact fw) (by rw [t8];rfl) Ib ?_))
 refine bodyPost_ret (rG (p:=2) (q:=3) (ty:=167) rfl _ _ w.heap.size (w.heap.size+1) 167 _ _ 40 3 rfl rfl ((gB _ (by omega)).trans (setRow_heap _ _ _ _ 167 _ (heap_alloc2_old _ _ _))) (setRow_heap _ _ _ _ 167 _ ((gB _ (by omega)).trans (heap_alloc2_new _ _ _))) Tryz.underlying167 (by rw [t7];exact fw) (by rw [t8];exact fw)) rfl ⟨rfl,jY _ (jY _ (ai (ai (Below.refl _ _) _) _) (Nat.le_refl _)) (Nat.le_succ _)⟩
end Go.Proofs.YtgccjgpdjkhpdaaGreat.B
namespace Go.Proofs.YtgccjgpdjkhpdaaGreat.B
open Go.RowKit Go.Proofs.YtgccjgpdjkhpdaaGreatW.PrintWords Go.Proofs.YtgccjgpdjkhpdaaGreatW.PrintLast Go.Proofs.YtgccjgpdjkhpdaaGreatW.PrintMore
set_option linter.unusedVariables false
set_option linter.unusedSimpArgs false
theorem zu (l:List Int):(aU l).all (·.oneCell')=true:=by
 rw [Array.all_eq_true_iff_forall_mem];intro x hx;unfold aU ac at hx;obtain⟨y,_,rfl⟩:=List.mem_map.1 (by simpa using hx);rfl
theorem pd (l:List Int):(aU l).size=l.length:=by simp [aU,ac]
theorem zv:ep.size=40:=by rw [ep,pd];simp
set_option maxHeartbeats 2000000 in
set_option maxRecDepth 8000 in
theorem Ih (w:World)(v l:Nat)(E B:List Int)(hE:E.length=40)(hB:B.length=40)(hv:1<=v/\v<=40)
  (k:∀ W,Calls Tryz.prog 101 #[.int .i64 (l:Int)] W fun e w'=>e=.returned (.tuple #[.agg (aU E),.agg (aU B)])/\Below W.heap.size W w') :
  Calls Tryz.prog 55 #[.int .i64 (v:Int),.int .i64 (l:Int)] w fun e w'=>e=.returned (.tuple #[.int .i64 (E.getD (v-1) 0),.int .i64 (B.getD (v-1) 0)])/\Below w.heap.size w w':=by
 obtain⟨i,hi⟩:∃ i,v-1=i:=⟨_,rfl⟩;rw [hi];obtain⟨ee,hee⟩:∃ ee,E.getD i 0=ee:=⟨_,rfl⟩;obtain⟨bb,hbb⟩:∃ bb,B.getD i 0=bb:=⟨_,rfl⟩;rw [hee,hbb];have HEE:=Mw hee;have HBB:=Mw hbb;have HII:=Mw hi;have HE:=Mw hE;have HBl:=Mw hB;have hv1:1<=v:=hv.1;have hv2:v<=40:=hv.2;have K:=Mw k;clear hE hB hv k hee hbb hi
 go_enter Tryz.func55,Tryz.ntmps55
 go_wp2_with fail
 refine (K.out w).mono ?_;rintro e w1 ⟨rfl,hb1⟩;have HB1:=Mw hb1;have hz:w.heap.size<=w1.heap.size:=hb1.size;clear hb1;obtain⟨w2,hw2⟩:∃ w2,w2=(((w1.alloc (.cells ep 167)).alloc (.cells ep 167)).setRow w1.heap.size (aU E)).setRow (w1.heap.size+1) (aU B):=⟨_,rfl⟩;have h1:Blk w2 w1.heap.size 167 (aU E):=by rw [hw2];exact (gB _ (by omega)).trans (setRow_heap _ _ _ _ 167 _ (heap_alloc2_old _ _ _))
 have h2:Blk w2 (w1.heap.size+1) 167 (aU B):=by rw [hw2];exact setRow_heap _ _ _ _ 167 _ ((gB _ (by omega)).trans (heap_alloc2_new _ _ _))
 have HB2:=Mw (show Below w.heap.size w w2 by rw [hw2];exact jY _ (jY _ ((HB1.out.alloc hz _).alloc (by simp;omega) _) hz) (by omega))
 have hi40:i<40:=by have:=HII.out;omega
 have hvi:(v:Int)-1=(i:Int):=by have:=HII.out;omega
 have c1:w2.cell? ⟨w1.heap.size,i,none⟩=some (.int .i64 (E.getD i 0)):=by
  have:=Blk.ucell (xs:=E) h1 (i:Int) (by omega) (by rw [HE.out];omega)
  rw [My] at this;rw [this];unfold rd;rw [My]
 have c2:w2.cell? ⟨w1.heap.size+1,i,none⟩=some (.int .i64 (B.getD i 0)):=by
  have:=Blk.ucell (xs:=B) h2 (i:Int) (by omega) (by rw [HBl.out];omega)
  rw [My] at this;rw [this];unfold rd;rw [My]
 rw [HEE.out] at c1;rw [HBB.out] at c2;have HW2:=Mw hw2;have HS1:=Mw (heap_alloc2_old w1 (.cells ep 167) (.cells ep 167));have HS2:=Mw (show (((w1.alloc (.cells ep 167)).alloc (.cells ep 167)).setRow w1.heap.size (aU E)).heap[w1.heap.size+1]? = some (.cells ep 167 (0,0)) from (gB _ (by omega)).trans (heap_alloc2_new _ _ _));have HI1:=Mw (show (Tryz.prog.info? 167).map (·.size)=some (aU E).size by rw [pd,HE.out];exact fw)
 have HI2:=Mw (show (Tryz.prog.info? 167).map (·.size)=some (aU B).size by rw [pd,HBl.out];exact fw)
 have HZ1:=Mw (show ep.size=(aU E).size by rw [pd,HE.out];exact zv)
 have HZ2:=Mw (show ep.size=(aU B).size by rw [pd,HBl.out];exact zv)
 clear h1 h2 hw2
 go_wp2_with (first | ((with_reducible refine de (N:=6) rfl ?_);refine jX rfl 167 rfl _ (jZ _) ?_) | ((with_reducible refine de (N:=7) rfl ?_);refine jX rfl 167 rfl _ (jZ _) ?_) | (refine wpList_store_row rfl 167 (.tmp 6) (.tmp 11) rfl w1.heap.size (aU E) rfl rfl 167 ep HS1.out HI1.out HZ1.out (zu _) ?_) | (refine wpList_store_row (g:=w1.heap.size+1) (cells:=aU B) (t:=167) (old:=ep) ?s1 167 (.tmp 7) (.tmp 12) ?s2 ?s3 ?s4 HS2.out HI2.out HZ2.out (zu _) ?_;(case s1=>rfl);(case s2=>rfl);(case s3=>(first | rfl | simp [Act.eval,Act.put]));(case s4=>(first | rfl | simp [Act.eval,Act.put]))))
 rw [<- HW2.out];have hvw:IntKind.i64.wrap ((v:Int)-1)=(i:Int):=by rw [hvi];exact IntWalk.i64_in _ (by omega)
 have hq0:(0:Int)<=(i:Int):=by omega
 have hq1:(i:Int)<40:=by omega
 clear hvi
 go_quiet (fail)
 go_wp2
 go_ret2
 exact⟨rfl,au HB2.out _⟩
def rH (l:Nat):List Int:=if l=0 then jy else if l=1 then jA else if l=2 then jC else jE
def rJ (l:Nat):List Int:=if l=0 then jz else if l=1 then jB else if l=2 then jD else jF
theorem Ii (W:World)(l:Nat)(h:l<4):Calls Tryz.prog 101 #[.int .i64 (l:Int)] W fun e w'=>e=.returned (.tuple #[.agg (aU (rH l)),.agg (aU (rJ l))])/\Below W.heap.size W w':=by
 have hl:l=0\/l=1\/l=2\/l=3:=by omega
 rcases hl with rfl | rfl | rfl | rfl
 ·exact Ic W
 ·exact Id W
 ·exact Ie W
 exact Ig W
theorem Ij:∀ v:Fin 40,∀ l:Fin 4,(rH l.val).getD v.val 0=(aW (v.val+1) l.val:Int)/\(rJ l.val).getD v.val 0=((av (v.val+1) l.val+aE (v.val+1) l.val:Nat):Int):=by decide +kernel
theorem Ik:∀ l:Fin 4,(rH l.val).length=40/\(rJ l.val).length=40:=by decide +kernel
theorem pe (w:World)(v l:Nat)(hv:1<=v/\v<=40)(hl:l<4) :
  Calls Tryz.prog 55 #[.int .i64 (v:Int),.int .i64 (l:Int)] w fun e w'=>e=.returned (.tuple #[.int .i64 (aW v l:Int),.int .i64 ((av v l+aE v l:Nat):Int)])/\Below w.heap.size w w':=by
 have ht:=Ij ⟨v-1,by omega⟩ ⟨l,hl⟩;have hlen:=Ik ⟨l,hl⟩;simp only [show v-1+1=v by omega] at ht;have:=Ih w v l (rH l) (rJ l) hlen.1 hlen.2 hv (fun W=>Ii W l hl);rw [ht.1,ht.2] at this;exact this
theorem Il:∀ v:Fin 40,F.mc.f 60 ((v.val+1:Nat):Int)=some ((bW (v.val+1)/8:Nat):Int):=by decide +kernel
theorem zw (w:World)(v:Nat)(hv:1<=v/\v<=40):Calls Tryz.prog 56 #[.int .i64 (v:Int)] w fun e w'=>e=.returned (.int .i64 ((bW v/8:Nat):Int))/\Below w.heap.size w w':=by
 have h:=Il ⟨v-1,by omega⟩;simp only [show v-1+1=v by omega] at h;refine (F.mc.calls 60 v _ w h).mono ?_;rintro e w' ⟨rfl,hb⟩;exact⟨rfl,hb⟩
def cz (v l:Nat):Nat:=aN v l*(av v l+aE v l)+aE v l
theorem zx (w:World)(v l:Nat)(hv:1<=v/\v<=40)(hl:l<4):Calls Tryz.prog 22 #[.int .i64 (v:Int),.int .i64 (l:Int)] w fun e w'=>e=.returned (.int .i64 (cz v l:Int))/\Below w.heap.size w w':=by
 have k1:=pe w v l hv hl;have L:=eD v l hv hl;have h1:=L.tot;have h2:=(jp v hv).2;have K2:=Mw (fun W=>zw W v hv);obtain⟨e,he⟩:∃ e,aW v l=e:=⟨_,rfl⟩;obtain⟨n,hn⟩:∃ n,av v l+aE v l=n:=⟨_,rfl⟩;obtain⟨T,hT⟩:∃ T,bW v/8=T:=⟨_,rfl⟩;obtain⟨q,hq⟩:∃ q,e*n=q:=⟨_,rfl⟩;have hr:T=cz v l+q:=by unfold cz;rw [he,hn,hT,hq] at h1;rw [hn];omega
 obtain⟨r,hrr⟩:∃ r,cz v l=r:=⟨_,rfl⟩;rw [he,hn] at k1;rw [hrr] at hr ⊢;rw [hT] at K2;have hT5:T<=5000:=by omega
 have hqw:wrap64 ((e:Int)*(n:Int))=(q:Int):=by
  have:(e:Int)*(n:Int)=(q:Int):=by rw [<- hq];simp
  rw [this];unfold wrap64;omega
 have hrw:(T:Int)-(q:Int)=(r:Int):=by omega
 clear L h1 h2 he hn hT hq hrr hr
 go_enter Tryz.func22,Tryz.ntmps22
 go_wp2_with (first | (go_at_call 55;refine k1.mono ?_;rintro e w1 ⟨rfl,hb1⟩;have HB1:=Mw hb1;clear hb1) | (go_at_call 56;refine (K2.out _).mono ?_;rintro e w2 ⟨rfl,hb2⟩;have HB2:=Mw (HB1.out.trans (hb2.mono HB1.out.size));clear hb2))
 go_ret
 exact⟨by rfl,HB2.out⟩
end Go.Proofs.YtgccjgpdjkhpdaaGreat.B
