import Derived.Deep.SlicePairs
import Derived.Test.YtgccjgpdjkhpdaaGreatVCrop10
/-! Own texts of this claim, part 12. -/
namespace Go.Proofs.YtgccjgpdjkhpdaaGreat.B
open Go.RowKit Go.Proofs.YtgccjgpdjkhpdaaGreatW.PrintWords Go.Proofs.YtgccjgpdjkhpdaaGreatW.PrintLast Go.Proofs.YtgccjgpdjkhpdaaGreatW.PrintMore
set_option linter.unusedVariables false
set_option linter.unusedSimpArgs false
def SegIn (s:F.S98):Prop:=(-9223372036854775808<=s.f0/\s.f0<=9223372036854775807)/\∀ x∈s.f1,0<=x/\x<=255
theorem i64_bounds {n:Int}(h:(Lit.int .i64 n).wf=true):-9223372036854775808<=n/\n<=9223372036854775807:=by
 unfold Lit.wf at h
 simp [IntKind.min,IntKind.max,IntKind.bits,IntKind.signed] at h
 omega
theorem u8_wf {n:Int}(h:(Lit.int .u8 n).wf=true):0<=n/\n<=255:=by
 unfold Lit.wf at h
 simp [IntKind.min,IntKind.max,IntKind.bits,IntKind.signed] at h
 omega
theorem segs_open {H:Type}{enc:TypeId×Value->H}{P:Program}{w:World}{base:Nat}{held:Bool}{t e t0 t1 q:TypeId}{f0 f1:Field}{a:Option Addr}{len cap:Nat}{x:DataW H×List MemPlace}
  (ht:P.underlying t=some (.slice e)) (he:P.underlying e=some (.struct #[f0,f1])) (ce:P.cellsOf e=2) (o0:f0.offset=0) (o1:f1.offset=1) (y0:f0.type=t0) (y1:f1.type=t1) (u0:P.underlying t0=some (.int .i64)) (u1:P.underlying t1=some (.slice q)) (uq:P.underlying q=some (.int .u8))
  (c0:P.cellsOf t0=1) (c1:P.cellsOf t1=1) (cq:P.cellsOf q=1)
  (h:∃ fuel,DataW.trod enc P w base (fun _=>true) held fuel t [.slice a len cap]=some x):∃ segs:List F.S98,segs.length=len/\len<=cap/\Kd.C F.k98 w a len segs/\∀ s∈segs,SegIn s:=by
 obtain⟨fuel,h⟩:=h
 subst y0 y1
 rcases Go.Deep.open_slice_pairs ht he ce o0 o1 c0 c1 h with⟨hcs,_⟩ | ⟨ad,l,c,m,n,V0,V1,D0,D1,P0,P1,hcs,_,hl,hm,hmm,_,hx⟩
 ·simp at hcs
  obtain⟨rfl,rfl,rfl⟩:=hcs
  exact⟨[],rfl,Nat.le_refl _,Kd.C_nil _ w,by simp⟩
 ·simp at hcs
  obtain⟨rfl,rfl,rfl⟩:=hcs
  simp only [if_true] at hmm
  have hm2:cap<=9223372036854775807:=by unfold maxLen at hm;omega
  have each:∀ i,i<len->∃ s:F.S98,SegIn s/\w.cell? (ad.add (i*2))=some (.int .i64 s.f0)/\∃ A1 c1,w.cell? (ad.add (i*2+1))=some (.slice A1 s.f1.length c1)/\s.f1.length<=c1/\(Kd.int .u8).C w A1 s.f1.length s.f1:=by
   intro i hi
   obtain⟨h0,h1,h2,h3⟩:=hx i (by omega)
   obtain⟨z,g1,g2,g3⟩:=DataW.trod_int u0 h2
   rcases Go.ChangeShapes.open_ints u1 uq cq h3 with⟨k1,_⟩ | ⟨a',l',c',zs,k1,_,k3,k4,k5,_,k7,k8⟩
   ·simp at k1 g1
    refine⟨⟨z,[]⟩,⟨i64_bounds (by simpa using g3),by simp⟩,by rw [h0,g1],none,0,by rw [h1,k1];rfl,Nat.le_refl _,Kd.C_nil _ w⟩
   ·simp at k1 g1
    simp only [if_true] at k5
    have hl2:(zs.take l').length=l':=by rw [List.length_take];omega
    refine⟨⟨z,zs.take l'⟩,⟨i64_bounds (by simpa using g3),fun y hy=>u8_wf (k8 y (List.mem_of_mem_take hy))⟩,by rw [h0,g1],some a',c',by rw [h1,k1];show _=some (Value.slice (some a') (zs.take l').length c');rw [hl2],by show (zs.take l').length<=c';rw [hl2];exact k3,?_⟩
    show (Kd.int .u8).C w (some a') (zs.take l').length (zs.take l')
    refine Kd.C_of_reads (enc:=Value.int .u8) (d:=(0:Int)) (h1:=fun _=>rfl) ⟨rfl,by rw [hl2];unfold maxLen at k4;omega,fun hp=>⟨a',rfl,fun j hj=>?_⟩⟩
    rw [hl2] at hj
    rw [k7 j (by omega),List.getD_eq_getElem?_getD,List.getD_eq_getElem?_getD,List.getElem?_take_of_lt hj]
  haveI:Inhabited F.S98:=⟨F.z98⟩
  obtain⟨f,hf⟩:=Go.Deep.choose_lt each
  have hl':((List.range len).map f).length=len:=by simp
  refine⟨(List.range len).map f,hl',hl,⟨hl',by omega,fun _=>⟨ad,rfl,fun j p hj=>?_⟩⟩,?_⟩
  ·have hjl:j<len:=by
    have:=(List.getElem?_eq_some_iff.1 hj).1
    rwa [hl'] at this
   rw [List.getElem?_map,List.getElem?_range hjl] at hj
   obtain rfl:=Option.some.inj hj
   obtain⟨_,g0,A1,cc,g1,g2,g3⟩:=hf j hjl
   refine⟨_,rfl,F.k98_mk w (f j) g2 g3,fun i u hu=>?_⟩
   match i,hu with
   | 0,hu=>
    obtain rfl:Value.int .i64 (f j).f0=u:=by simpa using hu
    exact g0
   | 1,hu=>
    obtain rfl:Value.slice A1 (f j).f1.length cc=u:=by simpa using hu
    exact g1
   | i+2,hu=>simp at hu
  ·intro s hs
   obtain⟨j,hj,rfl⟩:=List.mem_map.1 hs
   exact (hf j (List.mem_range.1 hj)).1
theorem own_nil' (w:World)(base:Nat):w.ownsRow base 5 1 (.slice none 0 0) ([]:List Int).length (nums .u8 []):=⟨rfl,.inl ⟨rfl,rfl⟩⟩
def SegDone (w0 w:World)(v:Value)(base s g:Nat)(bs:List Nat)(r:Option (List Int×Nat))(e:Ending)(w':World):Prop :=
 match r with
 | some (ys,p)=>∃ v',e=.returned (.tuple #[v',.nilIface])/\w'.ownsRow base 5 1 v' ys.length (nums .u8 ys)/\SrcAt w' s g bs p/\Below base w0 w'/\Grow w w' s v v'
 | none=>∃ v x,e=.returned (.tuple #[v,.iface 208 x])/\Below base w0 w'
theorem SegDone.fine {w0 w:World}{v0:Value}{base s g:Nat}{bs:List Nat}{r:Option (List Int×Nat)}{w':World}{v:Value}{ys:List Int}{p:Nat}(hr:r=some (ys,p))(h1:w'.ownsRow base 5 1 v ys.length (nums .u8 ys))(h2:SrcAt w' s g bs p)(h3:Below base w0 w')(h4:Grow w w' s v0 v):SegDone w0 w v0 base s g bs r (.returned (.tuple #[v,.nilIface])) w':=by
 subst hr
 exact⟨v,rfl,h1,h2,h3,h4⟩
theorem SegDone.bad {w0 w:World}{v0:Value}{base s g:Nat}{bs:List Nat}{r:Option (List Int×Nat)}{w':World}{v x:Value}(hr:r=none)(h3:Below base w0 w'):SegDone w0 w v0 base s g bs r (.returned (.tuple #[v,.iface 208 x])) w':=by
 subst hr
 exact⟨v,x,rfl,h3⟩
set_option maxHeartbeats 4000000 in
set_option maxRecDepth 8000 in
theorem numWalk (w0 w:World)(base s g pos cnt:Nat)(bs:List Nat)(v:Value)(xs:List Int)(hS:SrcAt w s g bs pos)(hg0:g<base)(hbs:base<=s)(hO:w.ownsRow base 5 1 v xs.length (nums .u8 xs))(hB:Below base w0 w)(hbase:base<=w.heap.size)
  (hx:AllLt 8 bs) (hl:bs.length<=100000) (hcnt:cnt<=100000) (hxl:xs.length<=1000000) (hp:pos<=8*bs.length) :
  Calls Tryz.prog 113 #[.pointer (some ⟨s,0,none⟩),v,.int .i64 (cnt:Int)] w (SegDone w0 w v base s g bs (numSeg bs pos cnt xs)):=by
 obtain⟨R,hR⟩:∃ R,numSeg bs pos cnt xs=R:=⟨_,rfl⟩
 rw [hR]
 have HGW:=Aside0.mk (Grow.refl w s v)
 have HS:=Aside0.mk hS
 have HO:=Aside0.mk hO
 have HB:=Aside0.mk hB
 have HX:=Aside0.mk hx
 have HR:=Aside0.mk hR
 have HP:=Aside0.mk hp
 have HLN:=Aside0.mk hl
 have HXL:=Aside0.mk hxl
 clear hS hO hB hx hR hp hl hxl
 go_enter Tryz.func113,Tryz.ntmps113
 go_wp2
 go_loopw [1,2] (fun vr vc wr=>∃ (c p:Nat) (ys:List Int),vc=.int .i64 (c:Int)/\c<=cnt/\Aside0 (wr.ownsRow base 5 1 vr ys.length (nums .u8 ys))/\Aside0 (SrcAt wr s g bs p)/\Aside0 (Below base w0 wr)/\Aside0 (base<=wr.heap.size)/\
  Aside0 (numSeg bs p c ys=R)/\Aside0 (p<=8*bs.length)/\Aside0 (ys.length+c<=1100000)/\Aside0 (Grow w wr s v vr)) (fun _ vc _=>(intOf vc).toNat)
 case atStart=>exact⟨cnt,pos,xs,rfl,Nat.le_refl _,HO,HS,HB,⟨hbase⟩,HR,HP,⟨by have:=HXL.out;omega⟩,HGW⟩
 case round=>
  clear HO HS HB HR HP HGW
  obtain⟨c,p,ys,rfl,hcc,HO,HS,HB,HBS,HR,HP,HLEN,HGW⟩:=hrel
  by_cases h3:3<=c
  ·have hr3:=HR.out
   rw [numSeg,if_pos h3] at hr3
   by_cases hroom:p+10<=8*bs.length
   ·have kr:=readBits wr s g p 10 bs HS.out hroom HLN.out (by decide) (by decide) HX.out
    obtain⟨n,hnn⟩:∃ n,rdBits bs p 10=n:=⟨_,rfl⟩
    rw [hnn] at kr hr3
    have hn24:n<1024:=by rw [<- hnn];exact rdBits_lt _ _ _
    by_cases hn:n<1000
    ·rw [if_pos ⟨hroom,hn⟩] at hr3
     have HR3:=Aside0.mk hr3
     have HRM:=Aside0.mk hroom
     clear hr3 hroom hnn
     go_wp2_with (first | (go_at_call 107;refine kr.mono ?_;rintro e w' ⟨rfl,hS',hT'⟩;have nG_:=Aside0.mk (HGW.out.turn hT');have nO_:=Aside0.mk (own_turn HO.out HS.out.1 hT');have nB_:=Aside0.mk (HB.out.trans (hT'.below hbs));have nZ_:=Aside0.mk (show base<=w'.heap.size by rw [hT'.size];exact HBS.out);clear HO HS HB HBS HGW;have HO:=nO_;have HS:=Aside0.mk hS';have HB:=nB_;have HBS:=nZ_;have HGW:=nG_;clear nO_ nB_ nZ_ nG_ hS' hT') | ((with_reducible refine gate_builtin (b:=.append) (xs:=#[.tmp 34,.tmp 39]) rfl ?_);at_builtin;refine print_append_num (w0:=w0) base rfl (.tmp 34) (.tmp 39) 26 5 .u8 1 rfl Tryz.underlying26 F.info5 (by decide) _ _ _ rfl rfl HO.out HB.out HBS.out ?aL ?_;(case aL=>(have:=HLEN.out;(try simp only [List.length_append,List.length_cons,List.length_nil]);omega));intro v_ w1 ho hb hg hat;have nG_:=Aside0.mk (HGW.out.app hg hat);have nS_:=Aside0.mk (HS.out.grown (base:=base) HO.out hg0 hg);have nB_:=Aside0.mk (Nat.le_trans HBS.out hg.size);have n0_:=Aside0.mk ho;have n1_:=Aside0.mk hb;clear HO HB HS HBS HGW;have HO:=n0_;have HB:=n1_;have HS:=nS_;have HBS:=nB_;have HGW:=nG_;clear n0_ n1_ nS_ nB_ nG_ ho hb hg hat) | ((with_reducible refine gate_builtin (b:=.append) (xs:=#[.tmp 41,.tmp 47]) rfl ?_);at_builtin;refine print_append_num (w0:=w0) base rfl (.tmp 41) (.tmp 47) 26 5 .u8 1 rfl Tryz.underlying26 F.info5 (by decide) _ _ _ rfl rfl HO.out HB.out HBS.out ?aL ?_;(case aL=>(have:=HLEN.out;(try simp only [List.length_append,List.length_cons,List.length_nil]);omega));intro v_ w1 ho hb hg hat;have nG_:=Aside0.mk (HGW.out.app hg hat);have nS_:=Aside0.mk (HS.out.grown (base:=base) HO.out hg0 hg);have nB_:=Aside0.mk (Nat.le_trans HBS.out hg.size);have n0_:=Aside0.mk ho;have n1_:=Aside0.mk hb;clear HO HB HS HBS HGW;have HO:=n0_;have HB:=n1_;have HS:=nS_;have HBS:=nB_;have HGW:=nG_;clear n0_ n1_ nS_ nB_ nG_ ho hb hg hat) | ((with_reducible refine gate_builtin (b:=.append) (xs:=#[.tmp 49,.tmp 54]) rfl ?_);at_builtin;refine print_append_num (w0:=w0) base rfl (.tmp 49) (.tmp 54) 26 5 .u8 1 rfl Tryz.underlying26 F.info5 (by decide) _ _ _ rfl rfl HO.out HB.out HBS.out ?aL ?_;(case aL=>(have:=HLEN.out;(try simp only [List.length_append,List.length_cons,List.length_nil]);omega));intro v_ w1 ho hb hg hat;have nG_:=Aside0.mk (HGW.out.app hg hat);have nS_:=Aside0.mk (HS.out.grown (base:=base) HO.out hg0 hg);have nB_:=Aside0.mk (Nat.le_trans HBS.out hg.size);have n0_:=Aside0.mk ho;have n1_:=Aside0.mk hb;clear HO HB HS HBS HGW;have HO:=n0_;have HB:=n1_;have HS:=nS_;have HBS:=nB_;have HGW:=nG_;clear n0_ n1_ nS_ nB_ nG_ ho hb hg hat))
     go_roundw
     case rel=>exact⟨c-3,p+10,_,by go_num,by omega,HO,HS,HB,HBS,⟨by have:=HR3.out;simpa using this⟩,HRM,⟨by have:=HLEN.out;simp only [List.length_append,List.length_cons,List.length_nil];omega⟩,HGW⟩
     case measure=>simp [intOf];omega
    ·rw [if_neg (fun h=>hn h.2)] at hr3
     have HR3:=Aside0.mk hr3
     clear hr3 hroom hnn
     go_wp2_with (first | (go_at_call 107;refine kr.mono ?_;rintro e w' ⟨rfl,hS',hT'⟩;have nG_:=Aside0.mk (HGW.out.turn hT');have nO_:=Aside0.mk (own_turn HO.out HS.out.1 hT');have nB_:=Aside0.mk (HB.out.trans (hT'.below hbs));have nZ_:=Aside0.mk (show base<=w'.heap.size by rw [hT'.size];exact HBS.out);clear HO HS HB HBS HGW;have HO:=nO_;have HS:=Aside0.mk hS';have HB:=nB_;have HBS:=nZ_;have HGW:=nG_;clear nO_ nB_ nZ_ nG_ hS' hT') | (go_at_call 89;refine (newFmt _ _).mono ?_;rintro e w' ⟨⟨y0,rfl⟩,hb'⟩;have nB_:=Aside0.mk ((HB.out.alloc HBS.out _).trans (hb'.mono (by simp;exact Nat.le_succ_of_le HBS.out)));clear HB;have HB:=nB_;clear nB_ hb'))
     go_ret2
     exact SegDone.bad HR3.out.symm HB.out
   ·rw [if_neg (fun h=>hroom h.1)] at hr3
    have HR3:=Aside0.mk hr3
    have kb:=readBits_bad wr s g p 10 bs HS.out HP.out (by omega) HLN.out (by decide) (by decide)
    clear hr3 hroom
    go_wp2_with (first | (go_at_call 107;refine kb.mono ?_;rintro e w' ⟨⟨x0,rfl⟩,hb'⟩;have nB_:=Aside0.mk (HB.out.trans (hb'.mono HBS.out));have nZ_:=Aside0.mk (Nat.le_trans HBS.out hb'.size);clear HO HS HB HBS;have HB:=nB_;have HBS:=nZ_;clear nB_ nZ_ hb') | (go_at_call 87;refine (wrapFmt _ 216 x0).mono ?_;rintro e w' ⟨⟨y0,rfl⟩,hb'⟩;have nB_:=Aside0.mk (HB.out.trans (hb'.mono HBS.out));clear HB;have HB:=nB_;clear nB_ hb'))
    go_ret2
    exact SegDone.bad HR3.out.symm HB.out
  ·by_cases h2:c=2
   ·subst h2
    have hr3:=HR.out
    rw [numSeg,if_neg (by decide),if_pos rfl] at hr3
    clear h3
    by_cases hroom:p+7<=8*bs.length
    ·have kr:=readBits wr s g p 7 bs HS.out hroom HLN.out (by decide) (by decide) HX.out
     obtain⟨n,hnn⟩:∃ n,rdBits bs p 7=n:=⟨_,rfl⟩
     rw [hnn] at kr hr3
     have hn24:n<128:=by rw [<- hnn];exact rdBits_lt _ _ _
     by_cases hn:n<100
     ·rw [if_pos ⟨hroom,hn⟩] at hr3
      have HR3:=Aside0.mk hr3
      clear hr3 hroom hnn
      go_wp2_with (first | (go_at_call 107;refine kr.mono ?_;rintro e w' ⟨rfl,hS',hT'⟩;have nG_:=Aside0.mk (HGW.out.turn hT');have nO_:=Aside0.mk (own_turn HO.out HS.out.1 hT');have nB_:=Aside0.mk (HB.out.trans (hT'.below hbs));have nZ_:=Aside0.mk (show base<=w'.heap.size by rw [hT'.size];exact HBS.out);clear HO HS HB HBS HGW;have HO:=nO_;have HS:=Aside0.mk hS';have HB:=nB_;have HBS:=nZ_;have HGW:=nG_;clear nO_ nB_ nZ_ nG_ hS' hT') | ((with_reducible refine gate_builtin (b:=.append) (xs:=#[.tmp 78,.tmp 83]) rfl ?_);at_builtin;refine print_append_num (w0:=w0) base rfl (.tmp 78) (.tmp 83) 26 5 .u8 1 rfl Tryz.underlying26 F.info5 (by decide) _ _ _ rfl rfl HO.out HB.out HBS.out ?aL ?_;(case aL=>(have:=HLEN.out;(try simp only [List.length_append,List.length_cons,List.length_nil]);omega));intro v_ w1 ho hb hg hat;have nG_:=Aside0.mk (HGW.out.app hg hat);have nS_:=Aside0.mk (HS.out.grown (base:=base) HO.out hg0 hg);have nB_:=Aside0.mk (Nat.le_trans HBS.out hg.size);have n0_:=Aside0.mk ho;have n1_:=Aside0.mk hb;clear HO HB HS HBS HGW;have HO:=n0_;have HB:=n1_;have HS:=nS_;have HBS:=nB_;have HGW:=nG_;clear n0_ n1_ nS_ nB_ nG_ ho hb hg hat) | ((with_reducible refine gate_builtin (b:=.append) (xs:=#[.tmp 85,.tmp 90]) rfl ?_);at_builtin;refine print_append_num (w0:=w0) base rfl (.tmp 85) (.tmp 90) 26 5 .u8 1 rfl Tryz.underlying26 F.info5 (by decide) _ _ _ rfl rfl HO.out HB.out HBS.out ?aL ?_;(case aL=>(have:=HLEN.out;(try simp only [List.length_append,List.length_cons,List.length_nil]);omega));intro v_ w1 ho hb hg hat;have nG_:=Aside0.mk (HGW.out.app hg hat);have nS_:=Aside0.mk (HS.out.grown (base:=base) HO.out hg0 hg);have nB_:=Aside0.mk (Nat.le_trans HBS.out hg.size);have n0_:=Aside0.mk ho;have n1_:=Aside0.mk hb;clear HO HB HS HBS HGW;have HO:=n0_;have HB:=n1_;have HS:=nS_;have HBS:=nB_;have HGW:=nG_;clear n0_ n1_ nS_ nB_ nG_ ho hb hg hat))
      go_ret2
      exact SegDone.fine (by rw [<- HR3.out];simp) HO.out HS.out HB.out HGW.out
     ·rw [if_neg (fun h=>hn h.2)] at hr3
      have HR3:=Aside0.mk hr3
      clear hr3 hroom hnn
      go_wp2_with (first | (go_at_call 107;refine kr.mono ?_;rintro e w' ⟨rfl,hS',hT'⟩;have nG_:=Aside0.mk (HGW.out.turn hT');have nO_:=Aside0.mk (own_turn HO.out HS.out.1 hT');have nB_:=Aside0.mk (HB.out.trans (hT'.below hbs));have nZ_:=Aside0.mk (show base<=w'.heap.size by rw [hT'.size];exact HBS.out);clear HO HS HB HBS HGW;have HO:=nO_;have HS:=Aside0.mk hS';have HB:=nB_;have HBS:=nZ_;have HGW:=nG_;clear nO_ nB_ nZ_ nG_ hS' hT') | (go_at_call 89;refine (newFmt _ _).mono ?_;rintro e w' ⟨⟨y0,rfl⟩,hb'⟩;have nB_:=Aside0.mk ((HB.out.alloc HBS.out _).trans (hb'.mono (by simp;exact Nat.le_succ_of_le HBS.out)));clear HB;have HB:=nB_;clear nB_ hb'))
      go_ret2
      exact SegDone.bad HR3.out.symm HB.out
    ·rw [if_neg (fun h=>hroom h.1)] at hr3
     have HR3:=Aside0.mk hr3
     have kb:=readBits_bad wr s g p 7 bs HS.out HP.out (by omega) HLN.out (by decide) (by decide)
     clear hr3 hroom
     go_wp2_with (first | (go_at_call 107;refine kb.mono ?_;rintro e w' ⟨⟨x0,rfl⟩,hb'⟩;have nB_:=Aside0.mk (HB.out.trans (hb'.mono HBS.out));have nZ_:=Aside0.mk (Nat.le_trans HBS.out hb'.size);clear HO HS HB HBS;have HB:=nB_;have HBS:=nZ_;clear nB_ nZ_ hb') | (go_at_call 87;refine (wrapFmt _ 216 x0).mono ?_;rintro e w' ⟨⟨y0,rfl⟩,hb'⟩;have nB_:=Aside0.mk (HB.out.trans (hb'.mono HBS.out));clear HB;have HB:=nB_;clear nB_ hb'))
     go_ret2
     exact SegDone.bad HR3.out.symm HB.out
   ·by_cases h1:c=1
    ·subst h1
     have hr3:=HR.out
     rw [numSeg,if_neg (by decide),if_neg (by decide),if_pos rfl] at hr3
     clear h3 h2
     by_cases hroom:p+4<=8*bs.length
     ·have kr:=readBits wr s g p 4 bs HS.out hroom HLN.out (by decide) (by decide) HX.out
      obtain⟨n,hnn⟩:∃ n,rdBits bs p 4=n:=⟨_,rfl⟩
      rw [hnn] at kr hr3
      have hn24:n<16:=by rw [<- hnn];exact rdBits_lt _ _ _
      by_cases hn:n<10
      ·rw [if_pos ⟨hroom,hn⟩] at hr3
       have HR3:=Aside0.mk hr3
       clear hr3 hroom hnn
       go_wp2_with (first | (go_at_call 107;refine kr.mono ?_;rintro e w' ⟨rfl,hS',hT'⟩;have nG_:=Aside0.mk (HGW.out.turn hT');have nO_:=Aside0.mk (own_turn HO.out HS.out.1 hT');have nB_:=Aside0.mk (HB.out.trans (hT'.below hbs));have nZ_:=Aside0.mk (show base<=w'.heap.size by rw [hT'.size];exact HBS.out);clear HO HS HB HBS HGW;have HO:=nO_;have HS:=Aside0.mk hS';have HB:=nB_;have HBS:=nZ_;have HGW:=nG_;clear nO_ nB_ nZ_ nG_ hS' hT') | ((with_reducible refine gate_builtin (b:=.append) (xs:=#[.tmp 112,.tmp 116]) rfl ?_);at_builtin;refine print_append_num (w0:=w0) base rfl (.tmp 112) (.tmp 116) 26 5 .u8 1 rfl Tryz.underlying26 F.info5 (by decide) _ _ _ rfl rfl HO.out HB.out HBS.out ?aL ?_;(case aL=>(have:=HLEN.out;(try simp only [List.length_append,List.length_cons,List.length_nil]);omega));intro v_ w1 ho hb hg hat;have nG_:=Aside0.mk (HGW.out.app hg hat);have nS_:=Aside0.mk (HS.out.grown (base:=base) HO.out hg0 hg);have nB_:=Aside0.mk (Nat.le_trans HBS.out hg.size);have n0_:=Aside0.mk ho;have n1_:=Aside0.mk hb;clear HO HB HS HBS HGW;have HO:=n0_;have HB:=n1_;have HS:=nS_;have HBS:=nB_;have HGW:=nG_;clear n0_ n1_ nS_ nB_ nG_ ho hb hg hat))
       go_ret2
       exact SegDone.fine (by rw [<- HR3.out]) HO.out HS.out HB.out HGW.out
      ·rw [if_neg (fun h=>hn h.2)] at hr3
       have HR3:=Aside0.mk hr3
       clear hr3 hroom hnn
       go_wp2_with (first | (go_at_call 107;refine kr.mono ?_;rintro e w' ⟨rfl,hS',hT'⟩;have nG_:=Aside0.mk (HGW.out.turn hT');have nO_:=Aside0.mk (own_turn HO.out HS.out.1 hT');have nB_:=Aside0.mk (HB.out.trans (hT'.below hbs));have nZ_:=Aside0.mk (show base<=w'.heap.size by rw [hT'.size];exact HBS.out);clear HO HS HB HBS HGW;have HO:=nO_;have HS:=Aside0.mk hS';have HB:=nB_;have HBS:=nZ_;have HGW:=nG_;clear nO_ nB_ nZ_ nG_ hS' hT') | (go_at_call 89;refine (newFmt _ _).mono ?_;rintro e w' ⟨⟨y0,rfl⟩,hb'⟩;have nB_:=Aside0.mk ((HB.out.alloc HBS.out _).trans (hb'.mono (by simp;exact Nat.le_succ_of_le HBS.out)));clear HB;have HB:=nB_;clear nB_ hb'))
       go_ret2
       exact SegDone.bad HR3.out.symm HB.out
     ·rw [if_neg (fun h=>hroom h.1)] at hr3
      have HR3:=Aside0.mk hr3
      have kb:=readBits_bad wr s g p 4 bs HS.out HP.out (by omega) HLN.out (by decide) (by decide)
      clear hr3 hroom
      go_wp2_with (first | (go_at_call 107;refine kb.mono ?_;rintro e w' ⟨⟨x0,rfl⟩,hb'⟩;have nB_:=Aside0.mk (HB.out.trans (hb'.mono HBS.out));have nZ_:=Aside0.mk (Nat.le_trans HBS.out hb'.size);clear HO HS HB HBS;have HB:=nB_;have HBS:=nZ_;clear nB_ nZ_ hb') | (go_at_call 87;refine (wrapFmt _ 216 x0).mono ?_;rintro e w' ⟨⟨y0,rfl⟩,hb'⟩;have nB_:=Aside0.mk (HB.out.trans (hb'.mono HBS.out));clear HB;have HB:=nB_;clear nB_ hb'))
      go_ret2
      exact SegDone.bad HR3.out.symm HB.out
    ·obtain rfl:c=0:=by omega
     have hr3:=HR.out
     rw [numSeg,if_neg (by decide),if_neg (by decide),if_neg (by decide)] at hr3
     have HR3:=Aside0.mk hr3
     clear h3 h2 h1 hr3
     go_wp2
     go_ret2
     exact SegDone.fine HR3.out.symm HO.out HS.out HB.out HGW.out
theorem PolyAt.upd2 {w w':World}{q gf p b:Nat}{cs cs2:Array Value}{xs:List Nat}(h:PolyAt w q gf xs)(hu:Upd2 w w' p b)(hp:Blk w p 144 cs)(hb:Blk w b 214 cs2):PolyAt w' q gf xs:=by
 obtain⟨g,o,c,k1,k2,k3,k4⟩:=h
 exact⟨g,o,c,hu.blk k1 (blk_ne k1 hp (by decide)) (blk_ne k1 hb (by decide)),k2,k3.move (hu.block g k3.lt (k3.ne hp (by decide)) (k3.ne hb (by decide))),k4⟩
theorem DecAt.upd2 {w w':World}{d rs gf p b:Nat}{cs cs2:Array Value}(h:DecAt w d rs gf)(hu:Upd2 w w' p b)(hp:Blk w p 144 cs)(hb:Blk w b 214 cs2):DecAt w' d rs gf:=by
 obtain⟨h1,h2,ge,gl,zp,op,ls,k1,k2,k3,k4,k5,k6⟩:=h
 have mv:∀ {q:Nat} {t:TypeId} {cs3:Array Value},Blk w q t cs3->t≠144->t≠214->Blk w' q t cs3:=fun hq n1 n2=>hu.blk hq (blk_ne hq hp n1) (blk_ne hq hb n2)
 exact⟨mv h1 (by decide) (by decide),mv h2 (by decide) (by decide),ge,gl,zp,op,ls,mv k1 (by decide) (by decide),mv k2 (by decide) (by decide),mv k3 (by decide) (by decide),k4,k5.upd2 hu hp hb,k6.upd2 hu hp hb⟩
structure Clean (c d c2 e:Nat)(ws:List Nat):Prop where
 small:∀ j,j<c+c2->AllLt 8 (blockWords c d c2 e ws j)
 root:∀ j,j<c+c2->∀ i,i<e->pev 8 285 (gx 8 285 i) (blockWords c d c2 e ws j)=0
theorem Upd2.trans_below {x y z:World}{g b:Nat}(h:Upd2 x y g b)(k:Below y.heap.size y z):Upd2 x z g b:=h.trans (Upd2.of (Upd.of_below k g) b)
set_option maxHeartbeats 8000000 in
set_option maxRecDepth 8000 in
theorem decodeTo (w:World)(dd rs gf p g b v dn l:Nat)(f:Nat->Nat->Bool)(hint:Value)(ws:List Nat)(K:Ending->World->Prop)
  (hD:DecAt w dd rs gf) (hP:Parser w p g v (.pointer none)) (hdn:dn<32) (hgo:fmtGo (nacc (fat1 f) 15) (nacc (fat2 f (17+4*v)) 15) fmtTab (2147483647,0)=some dn) (G:Grid w g b (17+4*v) (17+4*v) f) (hv:1<=v/\v<=40) (hok:VerOK f v) (hgp:g≠p) (hbp:b≠p)
  (hl:dn/8=l) (hl4:l<4) (hws:wordsOf v (dn%8) f=ws) (hC:Clean (lvC v l) (lvD v l) (lvC2 v l) (lvE v l) ws)
  (hK:∀ W gt pv,UBlk W gt (dataOf (lvC v l) (lvD v l) (lvC2 v l) (lvE v l) ws (lvC v l+lvC2 v l))->VerAt W pv (v:Int) (verRow v)->Upd2 w W p b->w.heap.size<=gt->
   Calls Tryz.prog 61 #[.slice (some ⟨gt,0,none⟩) (befD (lvC v l) (lvD v l) (lvC v l+lvC2 v l)) (befD (lvC v l) (lvD v l) (lvC v l+lvC2 v l)),.pointer (some ⟨pv,0,none⟩),.int .i64 (l:Int),hint] W fun e W'=>∃ x y,e=.returned (.tuple #[x,y])/\K e W') :
  Calls Tryz.prog 149 #[.pointer (some ⟨dd,0,none⟩),.pointer (some ⟨p,0,none⟩),hint] w K:=by
 have HD:=Aside0.mk hD
 have HP:=Aside0.mk hP
 have HGO:=Aside0.mk hgo
 have HG:=Aside0.mk G
 have HV:=Aside0.mk hv
 have HOK:=Aside0.mk hok
 have HL:=Aside0.mk hl
 have HWS:=Aside0.mk hws
 have HC:=Aside0.mk hC
 have HK:=Aside0.mk hK
 clear hD hP hgo G hv hok hl hws hC hK
 go_enter Tryz.func149,Tryz.ntmps149
 go_wp2_with fail
 refine (readVersion w p g b v _ f HP.out HG.out HV.out HOK.out).mono ?_
 rintro e w1 ⟨pv,rfl,hV1,hP1,hu1⟩
 have HV1:=Aside0.mk hV1
 have HP1:=Aside0.mk hP1
 have HU1:=Aside0.mk hu1
 have HG1:=Aside0.mk (hu1.grid HG.out hgp hbp)
 clear hV1 hP1 hu1
 go_wp2_with fail
 refine (readFormat w1 p g b v dn f HP1.out HG1.out HV.out hdn HGO.out).mono ?_
 rintro e w2 ⟨q2,rfl,hF2,hP2,hu2⟩
 have HF2:=Aside0.mk hF2
 have HP2:=Aside0.mk hP2
 have HU2:=Aside0.mk (HU1.out.trans hu2)
 have HG2:=Aside0.mk (hu2.grid HG1.out hgp hbp)
 have HV2:=Aside0.mk (show VerAt w2 pv (v:Int) (verRow v) by obtain⟨x1,hb1,_⟩:=HP1.out;exact HV1.out.upd_any hu2 hb1 (by decide) (by decide) (by decide) (by decide))
 clear hF2 hP2 hu2
 go_wp2_with fail
 refine (fmtLevel w2 q2 dn HF2.out).mono ?_
 rintro e w' ⟨rfl,rfl⟩
 rw [HL.out]
 go_wp2_with fail
 refine (readCodewords w2 p g b v q2 dn f HP2.out HF2.out HG2.out HV.out HOK.out hgp hbp).mono ?_
 rintro e w3 ⟨gr,rfl,hgr,hU3,hG3,hu3⟩
 rw [HWS.out] at hU3
 have HU3:=Aside0.mk hU3
 have HUP3:=Aside0.mk ((Upd2.of HU2.out b).trans hu3)
 have HV3:=Aside0.mk (show VerAt w3 pv (v:Int) (verRow v) by
  obtain⟨x1,hb1,_⟩:=HP2.out
  obtain⟨cs,hb2⟩:=HG2.out.words
  exact HV2.out.upd2 hu3 hb1 hb2)
 have hwl:ws.length=roomN v/8:=by rw [<- HWS.out];simp [wordsOf]
 have HWL:=Aside0.mk hwl
 clear hU3 hG3 hu3 hwl hgr
 go_wp2_with fail
 refine (dataBlocks w3 pv v l gr ws HV3.out HV.out hl4 HU3.out HWL.out).mono ?_
 rintro e w4 ⟨gR,pf,qf,rfl,hgR,hD4,hb4⟩
 have LY:=lay_at v l HV.out hl4
 have HCL:=HC
 have HKK:=HK
 clear HC HK
 obtain⟨e,he⟩:∃ e,lvE v l=e:=⟨_,rfl⟩
 obtain⟨c,hc⟩:∃ c,lvC v l=c:=⟨_,rfl⟩
 obtain⟨d,hd⟩:∃ d,lvD v l=d:=⟨_,rfl⟩
 obtain⟨c2,hc2⟩:∃ c2,lvC2 v l=c2:=⟨_,rfl⟩
 rw [he,hc,hd,hc2] at LY hD4 HCL HKK
 rw [hc,hc2]
 obtain⟨lr,e1,e2,q1,q2,q3,q4,-⟩:=LY
 obtain⟨n,hn⟩:∃ n,c+c2=n:=⟨_,rfl⟩
 rw [hn] at hD4 HKK ⊢
 have HD4:=Aside0.mk hD4
 have HB4:=Aside0.mk hb4
 have HDD4:=Aside0.mk (show DecAt w4 dd rs gf by
  obtain⟨x1,hb1,_⟩:=HP.out
  obtain⟨cs,hb2⟩:=HG.out.words
  exact (HD.out.upd2 HUP3.out hb1 hb2).below hb4 (Nat.le_refl _))
 have HV4:=Aside0.mk (HV3.out.below hb4 (Nat.le_refl _))
 have HUP4:=Aside0.mk (HUP3.out.trans_below hb4)
 have HNN:=Aside0.mk hn
 clear hD4 hb4 lr he hc hd hc2
 have hn1:1<=n:=by omega
 have hn100:n<=100:=by omega
 have hcn:c<=n:=by omega
 clear hn
 go_wp2_with fail
 go_loopw [14,67] (fun vt vi wr=>∃ i t:Nat,vi=.int .i64 (i:Int)/\vt=.int .i64 (t:Int)/\i<=n/\Aside0 (t=befD c d i)/\t<=300*i/\wr=w4) (fun _ vi _=>(n-intOf vi).toNat)
 case atStart=>exact⟨0,0,rfl,rfl,by omega,⟨by simp [befD]⟩,by omega,by first | rfl | trivial⟩
 case round=>
  obtain⟨i,t,rfl,rfl,hi,HT,ht,hww⟩:=hrel
  have hww:=hww.symm
  subst hww
  by_cases hin:i<n
  ·have r0:=HD4.out.ptr (i:=i) hin hin
   obtain⟨x,hx⟩:∃ x,dl c d i=x:=⟨_,rfl⟩
   have hx3:x<=300:=by rw [<- hx];unfold dl;split<;>omega
   have kb:=dbNum w4 (pf i) (dl c d i:Int) _ (HD4.out.blk i hin)
   rw [hx] at kb
   have HT2:=Aside0.mk (show t+x=befD c d (i+1) by rw [befD_succ,HT.out,hx])
   clear hx
   go_wp2_with (go_at_call 163;refine kb.mono ?_;rintro e' w' ⟨rfl,rfl⟩)
   go_roundw
   case rel=>exact⟨i+1,t+x,by go_num,by go_num,by omega,HT2,by omega,by first | rfl | trivial⟩
   case measure=>simp [intOf];omega
  ·have:n=i:=by omega
   subst this
   have mk:=make_u8 t (by omega)
   go_wp2
   clear mk
   obtain⟨gt,hgt⟩:∃ gt,gt=w4.heap.size:=⟨_,rfl⟩
   rw [<- hgt]
   obtain⟨D,hD⟩:∃ D,dataOf c d c2 e ws n=D:=⟨_,rfl⟩
   have hDl:D.length=t:=by rw [<- hD,dataOf_len,HT.out]
   obtain⟨w5,hw5⟩:∃ w5,w5=w4.alloc (.cells (nums .u8 (ints (List.replicate t 0))).toArray 5):=⟨_,rfl⟩
   rw [<- hw5]
   have HZ:=Aside0.mk (show UBlk w5 gt (copyTo D 0) by unfold copyTo;rw [hw5,hgt,hDl];exact Blk.new _ _ _)
   have HB5:=Aside0.mk (show Below w4.heap.size w4 w5 by rw [hw5];exact below_alloc (Below.refl _ _) _)
   have HGT:=Aside0.mk hgt
   have HDE:=Aside0.mk hD
   have HDL:=Aside0.mk hDl
   clear hw5 hgt hD hDl
   go_loopw [18,80] (fun vo vi wx=>∃ i o:Nat,vi=.int .i64 (i:Int)/\vo=.int .i64 (o:Int)/\i<=n/\Aside0 (o=befD c d i)/\Aside0 (Below w4.heap.size w4 wx)/\Aside0 (UBlk wx gt (copyTo D o))) (fun _ vi _=>(n-intOf vi).toNat)
   case atStart=>exact⟨0,0,rfl,rfl,by omega,⟨by simp [befD]⟩,HB5,HZ⟩
   case round=>
    clear HB5 HZ
    obtain⟨i,o,rfl,rfl,hi,HO,HB,HZ⟩:=hrel
    by_cases hin:i<n
    ·have hD5:=HD4.out.below HB.out (Nat.le_refl _)
     have r0:=hD5.ptr (i:=i) hin hin
     obtain⟨x,hx⟩:∃ x,dl c d i=x:=⟨_,rfl⟩
     have hx3:x<=201:=by rw [<- hx];unfold dl;split<;>omega
     have hget:∀ k,k<x->D.getD (o+k) 0=(blockWords c d c2 e ws i).getD k 0:=fun k hk=>by
      rw [<- HDE.out,HO.out];exact dataOf_get c d c2 e ws i k (by rw [hx];exact hk) n hin
     have hnext:o+x=befD c d (i+1):=by rw [befD_succ,HO.out,hx]
     have hmono:=befD_mono c d (i+1) n (by omega)
     have hTn:=HT.out
     have hot:o+x<=t:=by omega
     have hbl:=blockWords_len c d c2 e ws i
     obtain⟨bw,hbw⟩:∃ bw,blockWords c d c2 e ws i=bw:=⟨_,rfl⟩
     have hblk:=hD5.blk i hin
     have hwd:=hD5.word i hin
     have hsm:=HCL.out.small i (by rw [HNN.out];exact hin)
     have hrt:=HCL.out.root i (by rw [HNN.out];exact hin)
     rw [hbw] at hblk hwd hsm hrt hbl hget
     rw [hx] at hblk hbl
     rw [hbl] at hblk
     have kb:=dbNum _ (pf i) (x:Int) _ hblk
     have kw:=dbWords _ (pf i) _ _ hblk
     have kc:=corrClean _ dd rs gf (qf i) (x+e) x bw (HDD4.out.below HB.out (Nat.le_refl _)) hwd hsm hbl (by omega) (by omega) (by omega) (by omega) (fun i hi=>hrt i (by omega))
     have HGET:=Aside0.mk hget
     have HWD:=Aside0.mk hwd
     have HBL:=Aside0.mk hbl
     have HNX:=Aside0.mk hnext
     have hq4:qf i<w4.heap.size:=Blk.lt (HD4.out.word i hin)
     have hqg:qf i≠gt:=by rw [HGT.out];omega
     clear hD5 hx hget hnext hmono hTn hbl hbw hblk hwd hsm hrt hq4
     go_wp2_with (first | (go_at_call 163;refine kb.mono ?_;rintro e' w' ⟨rfl,rfl⟩) | (go_at_call 164;refine kw.mono ?_;rintro e' w' ⟨rfl,rfl⟩) | (go_at_call 165;refine kc.mono ?_;rintro e' wy ⟨rfl,hby⟩))
     have HBY:=Aside0.mk (below_then HB.out HB.out.size hby)
     have HZY:=Aside0.mk (show UBlk wy gt (copyTo D o) from Blk.below HZ.out hby (Blk.lt HZ.out))
     have HWY:=Aside0.mk (show UBlk wy (qf i) bw from Blk.below HWD.out hby (Blk.lt HWD.out))
     clear hby kb kw kc r0
     go_loopw [18,24] (fun vo vk wz=>∃ k:Nat,vk=.int .i64 (k:Int)/\vo=.int .i64 ((o+k:Nat):Int)/\k<=x/\Aside0 (Below w4.heap.size w4 wz)/\Aside0 (UBlk wz gt (copyTo D (o+k)))/\Aside0 (UBlk wz (qf i) bw)) (fun _ vk _=>(x-intOf vk).toNat)
     case atStart=>exact⟨0,rfl,rfl,by omega,HBY,HZY,HWY⟩
     case round=>
      clear HBY HZY HWY HB HZ
      obtain⟨k,rfl,rfl,hk,HB,HZ,HW⟩:=hrel
      by_cases hkx:k<x
      ·obtain⟨y,hy⟩:∃ y,bw.getD k 0=y:=⟨_,rfl⟩
       have r1:wr.cell? ⟨qf i,k,none⟩=some (.int .u8 (y:Int)):=by
        have:=UBlk.cell HW.out k (by rw [HBL.out];omega)
        rw [hy] at this
        exact this
       obtain⟨old,hold⟩:∃ old,(copyTo D (o+k)).getD (o+k) 0=old:=⟨_,rfl⟩
       have z1:wr.cell? ⟨gt,o+k,none⟩=some (.int .u8 (old:Int)):=by
        have:=UBlk.cell HZ.out (o+k) (by rw [copyTo_len D _ (by rw [HDL.out];omega),HDL.out];omega)
        rw [hold] at this
        exact this
       have z2:wr.frozen? ⟨gt,o+k,none⟩=false:=Blk.frozen HZ.out _
       have HZ2:=Aside0.mk (show UBlk (wr.setCell ⟨gt,o+k,none⟩ (.int .u8 (y:Int))) gt (copyTo D (o+(k+1))) by
        have h1:=HZ.out.set (o+k) y
        rw [<- hy,<- HGET.out k hkx,copyTo_set D (o+k) (by rw [HDL.out];omega),HGET.out k hkx,hy] at h1
        exact h1)
       have HW2:=Aside0.mk (show UBlk (wr.setCell ⟨gt,o+k,none⟩ (.int .u8 (y:Int))) (qf i) bw from Blk.far (p:=⟨gt,o+k,none⟩) HW.out hqg _)
       have HB2:=Aside0.mk (show Below w4.heap.size w4 (wr.setCell ⟨gt,o+k,none⟩ (.int .u8 (y:Int))) from Below.setc HB.out (by rw [HGT.out];exact Nat.le_refl _) _)
       clear hy hold
       go_wp2
       go_roundw
       case rel=>exact⟨k+1,by go_num,by go_num,by omega,HB2,HZ2,HW2⟩
       case measure=>simp [intOf];omega
      ·have:x=k:=by omega
       subst this
       go_wp2
       go_roundw
       case rel=>exact⟨i+1,o+x,by go_num,rfl,by omega,HNX,HB,HZ⟩
       case measure=>simp [intOf];omega
    ·have:n=i:=by omega
     subst this
     have hZ:=HZ.out
     rw [HO.out,<- HT.out,<- HDL.out,copyTo_all,<- HDE.out] at hZ
     have hk:=HKK.out wr gt pv hZ (HV4.out.below HB.out (Nat.le_refl _)) (HUP4.out.trans_below HB.out) (by rw [HGT.out];exact HUP4.out.size)
     rw [<- HT.out] at hk
     clear hZ
     go_wp2_with fail
     refine hk.mono ?_
     rintro e' w' ⟨xr,yr,rfl,hkk⟩
     go_wp2_with fail
     exact hkk
end Go.Proofs.YtgccjgpdjkhpdaaGreat.B
