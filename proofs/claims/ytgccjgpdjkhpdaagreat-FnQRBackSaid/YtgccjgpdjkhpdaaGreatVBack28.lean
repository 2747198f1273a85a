import Derived.BigQuiet
import Derived.Test.YtgccjgpdjkhpdaaGreatVBack27
/-! Own texts of this claim, part 28. -/
namespace Go.Proofs.YtgccjgpdjkhpdaaGreat.B
open Go.RowKit Go.Proofs.YtgccjgpdjkhpdaaGreatW.PrintWords Go.Proofs.YtgccjgpdjkhpdaaGreatW.PrintLast Go.Proofs.YtgccjgpdjkhpdaaGreatW.PrintMore
set_option linter.unusedVariables false
set_option linter.unusedSimpArgs false
theorem cell_on {w wx:World}{a:Addr}{v:Value}(hb:Below w.heap.size w wx)(h:w.cell? a=some v):wx.cell? a=some v:=(hb.cell (World.block_lt_of_cell? _ _ h)).trans h
def toSg (s:F.S98):Sg:=⟨s.f0.toNat,s.f1⟩
structure SegOK (s:F.S98)(v:Nat):Prop where
 mode:s.f0=1\/s.f0=2\/s.f0=4
 num:s.f0=1->∀ x∈s.f1,isDig x
 al:s.f0=2->∀ x∈s.f1,alNum x<45
 by_:∀ x∈s.f1,0<=x/\x<=255
 len:s.f1.length<2 ^ cntBits s.f0.toNat v
 short:s.f1.length<=2000
theorem SegOK.ok {s:F.S98}{v:Nat}(h:SegOK s v):(toSg s).Ok v:=by
 refine⟨?_,fun hm=>h.num ?_,fun hm=>h.al ?_,h.by_,h.len⟩
 ·rcases h.mode with e | e | e<;>simp [toSg,e]
 ·have hm:s.f0.toNat=1:=hm
  rcases h.mode with e | e | e<;>omega
 ·have hm:s.f0.toNat=2:=hm
  rcases h.mode with e | e | e<;>omega
structure SMem (w wr:World)(v6:Value)(bits:List Bool)(p:Nat)(m:Int)(A:Option Addr)(n c:Nat):Prop where
 own:BOwn wr w.heap.size v6 bits
 bel:Below w.heap.size w wr
 box:Blk wr p 98 #[.int .i64 m,.slice A n c]
theorem BOwn.under {w w':World}{base:Nat}{v:Value}{xs:List Bool}(h:BOwn w base v xs)(hb:Below w.heap.size w w'):BOwn w' base v xs:=own_move h fun k hk=>by
 obtain⟨cs,hc⟩:=own_blk h k hk
 exact hb.block k hc.lt
section
variable {w wr:World} {v6:Value} {bits:List Bool} {p:Nat} {m:Int} {A:Option Addr} {n c:Nat}
theorem SMem.under {w':World}(h:SMem w wr v6 bits p m A n c)(hb:Below wr.heap.size wr w'):SMem w w' v6 bits p m A n c :=
 ⟨h.own.under hb,h.bel.trans (hb.mono h.bel.size),h.box.below hb h.box.lt⟩
theorem SMem.drew (h:SMem w wr v6 bits p m A n c):SMem w wr.drew v6 bits p m A n c:=h.under ⟨rfl,rfl,rfl,Nat.le_refl _,fun _ _=>rfl⟩
theorem addS {N k:Nat}{a b:Int}(h:SMem w wr v6 bits p m A n c)(ha:a=(N:Int))(hb:b=(k:Int))(hn:N<2147483648)(hk:k<=60)(hxl:bits.length<=9000000) :
  Calls Tryz.prog 66 #[v6,.int .i64 a,.int .i64 b] wr fun e w'=>∃ v',e=.returned v'/\SMem w w' v' (bits++natBits N k) p m A n c:=by
 subst ha hb
 refine (qrAdd w wr w.heap.size N k v6 bits h.own h.bel h.bel.size hn hk (by omega)).mono ?_
 rintro e w' ⟨v',rfl,h1,h2,h3⟩
 exact⟨v',rfl,h1,h2,(h3.by_.block p h.box.lt (own_ne h.own h.box (by decide))).trans h.box⟩
theorem dataS {s:F.S98}{v:Nat}(h:SMem w wr v6 bits p m A n c)(hs:SegOK s v)(hm:s.f0=m)(hn:s.f1.length=n)(hc:n<=c)(hC:Kd.C (Kd.int .u8) w A n s.f1)(hxl:bits.length<=8000000) :
  Calls Tryz.prog 123 #[v6,.agg #[.int .i64 m,.slice A n c]] wr fun e w'=>∃ v',e=.returned v'/\BOwn w' w.heap.size v' (bits++sgData (toSg s))/\Below w.heap.size w w':=by
 have hsh:=hs.short
 rcases hs.mode with e | e | e
 ·have hd:sgData (toSg s)=numData s.f1:=by simp [sgData,toSg,e]
  rw [<- hm,e,hd]
  refine (dataNum w wr v6 bits A c n s.f1 hn hc hC h.bel h.own h.bel.size (hs.num e) (by omega)).mono ?_
  rintro e w' ⟨v',rfl,h1,h2,h3⟩
  exact⟨v',rfl,h1,h2⟩
 ·have hd:sgData (toSg s)=alData s.f1:=by simp [sgData,toSg,e]
  rw [<- hm,e,hd]
  refine (dataAl w wr v6 bits A c n s.f1 hn hc hC h.bel h.own h.bel.size (hs.al e) (by omega)).mono ?_
  rintro e w' ⟨v',rfl,h1,h2,h3⟩
  exact⟨v',rfl,h1,h2⟩
 ·have hd:sgData (toSg s)=byData s.f1:=by simp [sgData,toSg,e]
  rw [<- hm,e,hd]
  refine (dataByte w wr v6 bits A c n s.f1 hn hc hC h.bel h.own h.bel.size hs.by_ (by omega)).mono ?_
  rintro e w' ⟨v',rfl,h1,h2,h3⟩
  exact⟨v',rfl,h1,h2⟩
theorem fitsS {s:F.S98}{v:Nat}(h:SMem w wr v6 bits p m A n c)(hs:SegOK s v)(hm:s.f0=m)(hn:s.f1.length=n)(hC:Kd.C (Kd.int .u8) w A n s.f1) :
  Calls Tryz.prog 122 #[.agg #[.int .i64 m,.slice A n c]] wr fun e w'=>e=.returned (.bool true)/\SMem w w' v6 bits p m A n c:=by
 have hsh:=hs.short
 refine (fits122 wr m A c s.f1 n hn (by rw [<- hm];exact hs.mode) (Kd.C_below hC h.bel) (fun e=>hs.num (by omega)) (fun e=>hs.al (by omega)) (by omega)).mono ?_
 rintro e w' ⟨rfl,hb⟩
 exact⟨rfl,h.under hb⟩
theorem cntS {v k:Nat}(h:SMem w wr v6 bits p m A n c)(hm:m=1\/m=2\/m=4)(hv:1<=v/\v<=40)(hk:cntBits m.toNat v=k) :
  Calls Tryz.prog 58 #[.int .i64 m,.int .i64 (v:Int)] wr fun e w'=>e=.returned (.tuple #[.int .i64 (k:Int),.bool true])/\SMem w w' v6 bits p m A n c:=by
 refine (cnt58 wr m.toNat v m (by omega) (by omega) hv).mono ?_
 rintro e w' ⟨rfl,hb⟩
 exact⟨by rw [hk],h.under hb⟩
end
theorem sgBits_len (s:Sg)(v:Nat)(h:s.text.length<=2000):(sgBits s v).length<=20000:=by
 have h1:=cntBits_le s.mode v
 have h2:(sgData s).length<=8*s.text.length:=by
  unfold sgData
  split
  ·have:=numData_len s.text;omega
  ·split
   ·have:=alData_len s.text;omega
   ·rw [byData_len];omega
 unfold sgBits
 rw [List.length_append,List.length_append,natBits_len,natBits_len]
 omega
set_option maxHeartbeats 4000000 in
set_option maxRecDepth 8000 in
theorem stream67 (w:World)(A:Option Addr)(c n v:Nat)(l:List F.S98)(hl:Kd.C F.k98 w A n l)(hn:l.length=n)(hv:1<=v/\v<=40)(hs:∀ s∈l,SegOK s v)(hn2:n<=200) :
  Calls Tryz.prog 67 #[.slice A n c,.int .i64 (v:Int)] w fun e w'=>∃ v',e=.returned (.tuple #[v',.bool true])/\BOwn w' w.heap.size v' (sgStream (l.map toSg) v)/\Below w.heap.size w w':=by
 have HC:=Aside0.mk hl
 have HN:=Aside0.mk hn
 have HS:=Aside0.mk hs
 have HV:=Aside0.mk hv
 clear hl hn hs hv
 go_enter Tryz.func67,Tryz.ntmps67
 go_wp2_with fail
 go_loopw [6,13] (fun v6 v13 wr=>∃ i:Nat,v13=.int .i64 (i:Int)/\i<=n/\Aside0 (BOwn wr w.heap.size v6 (sgStream ((l.take i).map toSg) v))/\Aside0 (Below w.heap.size w wr)/\Aside0 ((sgStream ((l.take i).map toSg) v).length<=20000*i)) (fun _ v13 _=>(n-intOf v13).toNat)
 case atStart=>exact⟨0,rfl,Nat.zero_le _,⟨⟨rfl,.inl ⟨rfl,rfl⟩⟩⟩,⟨Below.refl _ _⟩,⟨by simp [sgStream]⟩⟩
 case round=>
  obtain⟨i,rfl,hi,HO,HB,HL⟩:=hrel
  by_cases hin:i<n
  ·obtain⟨ad,A1,c1,e0,r0,r1,l1,g1⟩:=F.at_T98 HC.out (i:Int) (by omega) (by omega)
   rw [Int.toNat_natCast] at r0 r1
   obtain⟨s,hss⟩:∃ s,F.rd_T98 l i=s:=⟨_,rfl⟩
   rw [hss] at r0 r1 l1 g1
   have hgi:l[i]? = some s:=by
    have hlt:i<l.length:=by rw [HN.out];exact hin
    rw [List.getElem?_eq_getElem hlt,<- hss]
    unfold F.rd_T98
    rw [Int.toNat_natCast,List.getD_eq_getElem?_getD,List.getElem?_eq_getElem hlt]
    rfl
   have hso:=HS.out s (List.mem_of_getElem? hgi)
   have HTK:=Aside0.mk (show sgStream ((l.take (i+1)).map toSg) v=sgStream ((l.take i).map toSg) v++sgBits (toSg s) v by
    rw [List.take_add_one,hgi]
    simp [sgStream])
   obtain⟨m,hm⟩:∃ m,s.f0=m:=⟨_,rfl⟩
   obtain⟨k,hk⟩:∃ k,s.f1.length=k:=⟨_,rfl⟩
   obtain⟨cb,hcb⟩:∃ cb,cntBits m.toNat v=cb:=⟨_,rfl⟩
   obtain⟨bits,hbits⟩:∃ bits,sgStream ((l.take i).map toSg) v=bits:=⟨_,rfl⟩
   have HNX:=Aside0.mk (show sgBits (toSg s) v=natBits m.toNat 4++(natBits k cb++sgData (toSg s)) by unfold sgBits toSg;rw [hm,hk,hcb])
   rw [hm] at r0
   rw [hk] at r1 l1 g1
   rw [hbits] at HO HL HTK
   subst e0
   replace r0:=cell_on HB.out r0
   replace r1:=cell_on HB.out r1
   have HSO:=Aside0.mk hso
   have HM:=Aside0.mk hm
   have HK:=Aside0.mk hk
   have HCB:=Aside0.mk hcb
   have HG:=Aside0.mk g1
   have HBL:=Aside0.mk (show bits.length<=4000000 by have:=HL.out;omega)
   have hmm:m=1\/m=2\/m=4:=by rw [<- hm];exact hso.mode
   have hkc:k<2 ^ cb:=by rw [<- hk,<- hcb,<- hm];exact hso.len
   have hcb16:cb<=16:=by rw [<- hcb];exact (cntBits_le _ _).2
   have hk2:k<=2000:=by rw [<- hk];exact hso.short
   obtain⟨P2,hP2⟩:∃ P2:Nat,2 ^ cb=P2:=⟨_,rfl⟩
   have hP2i:((2:Int) ^ cb)=(P2:Int):=by rw [<- hP2];simp
   have hP3:P2<=65536:=by rw [<- hP2];exact Nat.le_trans (Nat.pow_le_pow_right (by decide) hcb16) (by decide)
   rw [hP2] at hkc
   have hwp:IntKind.i64.wrap (2 ^ cb)=(P2:Int):=by rw [hP2i];exact IntWalk.i64_in _ (by omega)
   have HWP:=Aside0.mk hwp
   clear hP2 hP2i hwp
   obtain⟨wa,hwa⟩:∃ wa,wa=wr.alloc (.cells #[.int .i64 m,.slice A1 k c1] 98):=⟨_,rfl⟩
   have HSM:=Aside0.mk (show SMem w wa u6 bits wr.heap.size m A1 k c1 by
    rw [hwa]
    exact⟨HO.out.under (below_alloc (Below.refl _ _) _),HB.out.alloc HB.out.size _,Blk.new _ _ _⟩)
   have HWA:=Aside0.mk hwa
   have c0:=HSM.out.box.cell 0
   clear hso hss hgi hm hk hcb hbits hwa g1
   go_wp2_with fail
   rw [<- HWA.out]
   refine (cntS HSM.out hmm HV.out HCB.out).mono ?_
   rintro e w2 ⟨rfl,hM2⟩
   have HM2:=Aside0.mk hM2
   clear c0 hM2 r0 r1
   have c0:=HM2.out.box.cell 0
   have c1':=HM2.out.box.cell 1
   go_wp2_with fail
   have kf:=fitsS HM2.out.drew HSO.out HM.out HK.out HG.out
   have hwp:=HWP.out
   go_region_with (go_at_call 122;with_reducible (refine kf.mono ?_);rintro e w3 ⟨rfl,hM3⟩;have d0:=hM3.box.cell 0;have d1:=hM3.box.cell 1;have HM3:=Aside0.mk hM3;clear hM3)
   all_goals
    clear hwp c0 c1' kf
    go_wp2
    have hmN:m=((m.toNat:Nat):Int):=by omega
    have k1:=addS (N:=m.toNat) (k:=4) (a:=m) (b:=4) HM3.out.drew hmN rfl (by omega) (by decide) (by have:=HBL.out;omega)
    have HK2:=Aside0.mk (fun (W:World) (v1:Value) (hW:SMem w W v1 (bits++natBits m.toNat 4) wr.heap.size m A1 k c1)=>addS (N:=k) (k:=cb) (a:=(k:Int)) (b:=(cb:Int)) hW rfl rfl (by omega) (by omega) (by have:=HBL.out;rw [List.length_append,natBits_len];omega))
    clear hmN
    go_region_with (first | (go_at_call 66;with_reducible (refine k1.mono ?_);rintro e w4 ⟨v1,rfl,hM4⟩;have e0:=hM4.box.cell 0;have e1:=hM4.box.cell 1;have HM4:=Aside0.mk hM4;clear hM4) | (go_at_call 66;with_reducible (refine (HK2.out _ _ HM4.out).mono ?_);rintro e w5 ⟨v2,rfl,hM5⟩;have HM5:=Aside0.mk hM5;clear hM5))
    all_goals
     clear k1 d0 d1
     have g0:=HM5.out.box.cell 0
     have g1:=HM5.out.box.cell 1
     have kd:=dataS HM5.out HSO.out HM.out HK.out l1 HG.out (by have:=HBL.out;rw [List.length_append,List.length_append,natBits_len,natBits_len];omega)
     go_wp2_with (go_at_call 123;with_reducible (refine kd.mono ?_);rintro e w6 ⟨v3,rfl,hO6,hB6⟩;have HO6:=Aside0.mk hO6;have HB6:=Aside0.mk hB6;clear hO6 hB6)
     go_roundw
     case rel=>
      have ho:Aside0 (BOwn w6 w.heap.size v3 (sgStream ((l.take (i+1)).map toSg) v)):=⟨by rw [HTK.out,HNX.out];have:=HO6.out;simpa [List.append_assoc] using this⟩
      have hln:Aside0 ((sgStream ((l.take (i+1)).map toSg) v).length<=20000*(i+1)):=⟨by rw [HTK.out,List.length_append];have:=HL.out;have h3:=sgBits_len (toSg s) v HSO.out.short;omega⟩
      first
       | exact⟨i+1,by go_num,by omega,ho,HB6,hln⟩
       | ((repeat apply Exists.intro);exact⟨⟨i+1,by go_num,by omega,ho,HB6,hln⟩,rfl⟩)
     case measure=>(show ((n:Int)-((i:Int)+1)).toNat<((n:Int)-(i:Int)).toNat;omega)
  ·have:n=i:=by omega
   subst this
   have HTK:=Aside0.mk (show l.take n=l by rw [<- HN.out,List.take_length])
   go_wp2
   go_ret2
   exact⟨_,rfl,by have:=HO.out;rw [HTK.out] at this;exact this,HB.out⟩
end Go.Proofs.YtgccjgpdjkhpdaaGreat.B
namespace Go.Proofs.YtgccjgpdjkhpdaaGreat.B
open Go.RowKit Go.Proofs.YtgccjgpdjkhpdaaGreatW.PrintWords Go.Proofs.YtgccjgpdjkhpdaaGreatW.PrintLast Go.Proofs.YtgccjgpdjkhpdaaGreatW.PrintMore
set_option linter.unusedVariables false
set_option linter.unusedSimpArgs false
section
variable {P:Program} {ops:Array Oper} {rest:List Oper} {o:Oper} {a:Act} {Q:Exit->Act->World->Prop} {W W':World}
theorem wpList_allocA (hgd:o.guard=none)(t:TypeId)(ho:o.op=.alloc t)(v:Value)(hrun:(Instr.alloc t true (.tuple #[])).run P W=.ok v W')(k:wpList P ops Q rest (a.put o.dst v) W'):wpList P ops Q (o :: rest) a W:=by
 refine wpList_plain hgd fun K hK=>?_
 unfold Oper.wp
 have e:(execOp a.eval o).run P W=.ok (.value v) W':=by
  unfold execOp
  rw [ho]
  simp only [Sem.run_bind]
  show Result.andThen ((Instr.alloc t true (.tuple #[])).run P W) _=_
  rw [hrun]
  rfl
 rw [e]
 exact hK _ _ k
theorem wpList_buildA (hgd:o.guard=none)(t:TypeId)(parts:Array (Nat×Operand))(ho:o.op=.build t parts)
  (vals:Array (Nat×Value)) (hv:(parts.map fun p=>(p.1,a.eval p.2))=vals) (v:Value) (hrun:(Instr.build t vals).run P W=.ok v W') (k:wpList P ops Q rest (a.put o.dst v) W'):wpList P ops Q (o :: rest) a W:=by
 refine wpList_plain hgd fun K hK=>?_
 subst hv
 unfold Oper.wp
 have e:(execOp a.eval o).run P W=.ok (.value v) W':=by
  unfold execOp
  rw [ho]
  simp only [Sem.run_bind]
  show Result.andThen ((Instr.build t (parts.map fun p=>(p.1,a.eval p.2))).run P W) _=_
  rw [hrun]
  rfl
 rw [e]
 exact hK _ _ k
end
theorem results_cells2 {P:Program}{fn:Func}{p q:Tmp}{ty:TypeId}(h:fn.results=#[.cell p ty,.cell q ty])(tmps:Array Value)(w:World)(g g2:Nat)(t:TypeId)(cs cs2:Array Value)(m:Nat)(el:TypeId)
  (hp:tmps.getD p undef=.pointer (some ⟨g,0,none⟩)) (hq:tmps.getD q undef=.pointer (some ⟨g2,0,none⟩)) (hg:w.heap[g]? = some (.cells cs t (0,0))) (hg2:w.heap[g2]? = some (.cells cs2 t (0,0)))
  (hu:P.underlying ty=some (.array m el)) (hi:(P.info? ty).map (·.size)=some cs.size) (hi2:(P.info? ty).map (·.size)=some cs2.size) :
  (results fn tmps).run P w=.ok (.tuple #[.agg cs,.agg cs2]) w:=by
 have hp':tmps[p]?.getD undef=.pointer (some ⟨g,0,none⟩):=by simpa using hp
 have hq':tmps[q]?.getD undef=.pointer (some ⟨g2,0,none⟩):=by simpa using hq
 simp [results,h,hp',hq',asAddr,run_loadVar_row w g t ty cs (0,0) _ hg hu rfl hi,run_loadVar_row w g2 t ty cs2 (0,0) _ hg2 hu rfl hi2]
theorem setRow_far {w:World}{g k:Nat}(cs:Array Value)(h:k≠g):(w.setRow g cs).heap[k]? = w.heap[k]?:=by
 unfold World.setRow
 rw [Array.getElem?_modify]
 rw [if_neg (Ne.symm h)]
theorem setRow_below {B:Nat}{w0 w:World}{g:Nat}(cs:Array Value)(h:Below B w0 w)(hg:B<=g):Below B w0 (w.setRow g cs):=⟨h.os,h.tape,h.output,by rw [setRow_size];exact h.size,fun k hk=>(setRow_far cs (by omega)).trans (h.block k hk)⟩
def arr40 (l:List Int):Array Value:=(nums .i64 l).toArray
def z40:Array Value:=arr40 (List.replicate 40 0)
def vals40 (l:List Int):Array (Nat×Value):=(l.zipIdx.map fun p=>(p.2,Value.int .i64 p.1)).toArray
def parts40 (l:List Int):Array (Nat×Operand):=(l.zipIdx.map fun p=>(p.2,Operand.const (.int .i64 p.1))).toArray
theorem alloc167 (W:World):(Instr.alloc 167 true (.tuple #[])).run Tryz.prog W=.ok (.pointer (some ⟨W.heap.size,0,none⟩)) (W.alloc (.cells z40 167)):=by kernel_rfl
theorem info167:(Tryz.prog.info? 167).map (·.size)=some 40:=by kernel_rfl
def ecT0:List Int:=[10,16,26,18,24,16,18,22,22,26,30,22,22,24,24,28,28,26,26,26,26,28,28,28,28,28,28,28,28,28,28,28,28,28,28,28,28,28,28,28]
def blT0:List Int:=[1,1,1,2,2,4,4,4,5,5,5,8,9,9,10,10,11,13,14,16,17,17,18,20,21,23,25,26,28,29,31,33,35,37,38,40,43,45,47,49]
theorem ecT0_parts (a:Act):((parts40 ecT0).map fun p=>(p.1,a.eval p.2))=vals40 ecT0:=by kernel_rfl
theorem ecT0_run (W:World):(Instr.build 167 (vals40 ecT0)).run Tryz.prog W=.ok (.agg (arr40 ecT0)) W:=by kernel_rfl
theorem ecT0_size:(arr40 ecT0).size=40:=by kernel_rfl
theorem ecT0_one:(arr40 ecT0).all (·.oneCell')=true:=by kernel_rfl
theorem blT0_parts (a:Act):((parts40 blT0).map fun p=>(p.1,a.eval p.2))=vals40 blT0:=by kernel_rfl
theorem blT0_run (W:World):(Instr.build 167 (vals40 blT0)).run Tryz.prog W=.ok (.agg (arr40 blT0)) W:=by kernel_rfl
theorem blT0_size:(arr40 blT0).size=40:=by kernel_rfl
theorem blT0_one:(arr40 blT0).all (·.oneCell')=true:=by kernel_rfl
def ecT1:List Int:=[7,10,15,20,26,18,20,24,30,18,20,24,26,30,22,24,28,30,28,28,28,28,30,30,26,28,30,30,30,30,30,30,30,30,30,30,30,30,30,30]
def blT1:List Int:=[1,1,1,1,1,2,2,2,2,4,4,4,4,4,6,6,6,6,7,8,8,9,9,10,12,12,12,13,14,15,16,17,18,19,19,20,21,22,24,25]
theorem ecT1_parts (a:Act):((parts40 ecT1).map fun p=>(p.1,a.eval p.2))=vals40 ecT1:=by kernel_rfl
theorem ecT1_run (W:World):(Instr.build 167 (vals40 ecT1)).run Tryz.prog W=.ok (.agg (arr40 ecT1)) W:=by kernel_rfl
theorem ecT1_size:(arr40 ecT1).size=40:=by kernel_rfl
theorem ecT1_one:(arr40 ecT1).all (·.oneCell')=true:=by kernel_rfl
theorem blT1_parts (a:Act):((parts40 blT1).map fun p=>(p.1,a.eval p.2))=vals40 blT1:=by kernel_rfl
theorem blT1_run (W:World):(Instr.build 167 (vals40 blT1)).run Tryz.prog W=.ok (.agg (arr40 blT1)) W:=by kernel_rfl
theorem blT1_size:(arr40 blT1).size=40:=by kernel_rfl
theorem blT1_one:(arr40 blT1).all (·.oneCell')=true:=by kernel_rfl
def ecT2:List Int:=[17,28,22,16,22,28,26,26,24,28,24,28,22,24,24,30,28,28,26,28,30,24,30,30,30,30,30,30,30,30,30,30,30,30,30,30,30,30,30,30]
def blT2:List Int:=[1,1,2,4,4,4,5,6,8,8,11,11,16,16,18,16,19,21,25,25,25,34,30,32,35,37,40,42,45,48,51,54,57,60,63,66,70,74,77,81]
theorem ecT2_parts (a:Act):((parts40 ecT2).map fun p=>(p.1,a.eval p.2))=vals40 ecT2:=by kernel_rfl
theorem ecT2_run (W:World):(Instr.build 167 (vals40 ecT2)).run Tryz.prog W=.ok (.agg (arr40 ecT2)) W:=by kernel_rfl
theorem ecT2_size:(arr40 ecT2).size=40:=by kernel_rfl
theorem ecT2_one:(arr40 ecT2).all (·.oneCell')=true:=by kernel_rfl
theorem blT2_parts (a:Act):((parts40 blT2).map fun p=>(p.1,a.eval p.2))=vals40 blT2:=by kernel_rfl
theorem blT2_run (W:World):(Instr.build 167 (vals40 blT2)).run Tryz.prog W=.ok (.agg (arr40 blT2)) W:=by kernel_rfl
theorem blT2_size:(arr40 blT2).size=40:=by kernel_rfl
theorem blT2_one:(arr40 blT2).all (·.oneCell')=true:=by kernel_rfl
def ecT3:List Int:=[13,22,18,26,18,24,18,22,20,24,28,26,24,20,30,24,28,28,26,30,28,30,30,30,30,28,30,30,30,30,30,30,30,30,30,30,30,30,30,30]
def blT3:List Int:=[1,1,2,2,4,4,6,6,8,8,8,10,12,16,12,17,16,18,21,20,23,23,25,27,29,34,34,35,38,40,43,45,48,51,53,56,59,62,65,68]
theorem ecT3_parts (a:Act):((parts40 ecT3).map fun p=>(p.1,a.eval p.2))=vals40 ecT3:=by kernel_rfl
theorem ecT3_run (W:World):(Instr.build 167 (vals40 ecT3)).run Tryz.prog W=.ok (.agg (arr40 ecT3)) W:=by kernel_rfl
theorem ecT3_size:(arr40 ecT3).size=40:=by kernel_rfl
theorem ecT3_one:(arr40 ecT3).all (·.oneCell')=true:=by kernel_rfl
theorem blT3_parts (a:Act):((parts40 blT3).map fun p=>(p.1,a.eval p.2))=vals40 blT3:=by kernel_rfl
theorem blT3_run (W:World):(Instr.build 167 (vals40 blT3)).run Tryz.prog W=.ok (.agg (arr40 blT3)) W:=by kernel_rfl
theorem blT3_size:(arr40 blT3).size=40:=by kernel_rfl
theorem blT3_one:(arr40 blT3).all (·.oneCell')=true:=by kernel_rfl
set_option maxHeartbeats 4000000 in
set_option maxRecDepth 100000 in
theorem corr101_0 (w:World):Calls Tryz.prog 101 #[.int .i64 0] w fun e w'=>e=.returned (.tuple #[.agg (arr40 ecT0),.agg (arr40 blT0)])/\Below w.heap.size w w':=by
 go_enter Tryz.func101,Tryz.ntmps101
 go_wp2_with (first | ((with_reducible refine gate_dst (N:=2) rfl ?_);refine wpList_allocA rfl 167 rfl _ (alloc167 _) ?_) | ((with_reducible refine gate_dst (N:=3) rfl ?_);refine wpList_allocA rfl 167 rfl _ (alloc167 _) ?_) | ((with_reducible refine gate_dst (N:=11) rfl ?_);refine wpList_buildA rfl 167 (parts40 ecT0) rfl (vals40 ecT0) (ecT0_parts _) _ (ecT0_run _) ?_) | ((with_reducible refine gate_dst (N:=12) rfl ?_);refine wpList_buildA rfl 167 (parts40 blT0) rfl (vals40 blT0) (blT0_parts _) _ (blT0_run _) ?_) | (refine wpList_store_row rfl 167 (.tmp 2) (.tmp 11) rfl w.heap.size (arr40 ecT0) rfl rfl 167 z40 (heap_alloc2_old _ _ _) (by rw [ecT0_size];exact info167) (by rw [ecT0_size];rfl) ecT0_one ?_) | (refine wpList_store_row rfl 167 (.tmp 3) (.tmp 12) rfl (w.heap.size+1) (arr40 blT0) rfl rfl 167 z40 ((setRow_far _ (by omega)).trans (heap_alloc2_new _ _ _)) (by rw [blT0_size];exact info167) (by rw [blT0_size];rfl) blT0_one ?_))
 refine bodyPost_ret (results_cells2 (p:=2) (q:=3) (ty:=167) rfl _ _ w.heap.size (w.heap.size+1) 167 _ _ 40 3 rfl rfl ((setRow_far _ (by omega)).trans (setRow_heap _ _ _ _ 167 _ (heap_alloc2_old _ _ _))) (setRow_heap _ _ _ _ 167 _ ((setRow_far _ (by omega)).trans (heap_alloc2_new _ _ _))) Tryz.underlying167 (by rw [ecT0_size];exact info167) (by rw [blT0_size];exact info167)) rfl ⟨rfl,setRow_below _ (setRow_below _ (below_alloc (below_alloc (Below.refl _ _) _) _) (Nat.le_refl _)) (Nat.le_succ _)⟩
set_option maxHeartbeats 4000000 in
set_option maxRecDepth 100000 in
theorem corr101_1 (w:World):Calls Tryz.prog 101 #[.int .i64 1] w fun e w'=>e=.returned (.tuple #[.agg (arr40 ecT1),.agg (arr40 blT1)])/\Below w.heap.size w w':=by
 go_enter Tryz.func101,Tryz.ntmps101
 go_wp2_with (first | ((with_reducible refine gate_dst (N:=2) rfl ?_);refine wpList_allocA rfl 167 rfl _ (alloc167 _) ?_) | ((with_reducible refine gate_dst (N:=3) rfl ?_);refine wpList_allocA rfl 167 rfl _ (alloc167 _) ?_) | ((with_reducible refine gate_dst (N:=7) rfl ?_);refine wpList_buildA rfl 167 (parts40 ecT1) rfl (vals40 ecT1) (ecT1_parts _) _ (ecT1_run _) ?_) | ((with_reducible refine gate_dst (N:=8) rfl ?_);refine wpList_buildA rfl 167 (parts40 blT1) rfl (vals40 blT1) (blT1_parts _) _ (blT1_run _) ?_) | (refine wpList_store_row rfl 167 (.tmp 2) (.tmp 7) rfl w.heap.size (arr40 ecT1) rfl rfl 167 z40 (heap_alloc2_old _ _ _) (by rw [ecT1_size];exact info167) (by rw [ecT1_size];rfl) ecT1_one ?_) | (refine wpList_store_row rfl 167 (.tmp 3) (.tmp 8) rfl (w.heap.size+1) (arr40 blT1) rfl rfl 167 z40 ((setRow_far _ (by omega)).trans (heap_alloc2_new _ _ _)) (by rw [blT1_size];exact info167) (by rw [blT1_size];rfl) blT1_one ?_))
 refine bodyPost_ret (results_cells2 (p:=2) (q:=3) (ty:=167) rfl _ _ w.heap.size (w.heap.size+1) 167 _ _ 40 3 rfl rfl ((setRow_far _ (by omega)).trans (setRow_heap _ _ _ _ 167 _ (heap_alloc2_old _ _ _))) (setRow_heap _ _ _ _ 167 _ ((setRow_far _ (by omega)).trans (heap_alloc2_new _ _ _))) Tryz.underlying167 (by rw [ecT1_size];exact info167) (by rw [blT1_size];exact info167)) rfl ⟨rfl,setRow_below _ (setRow_below _ (below_alloc (below_alloc (Below.refl _ _) _) _) (Nat.le_refl _)) (Nat.le_succ _)⟩
set_option maxHeartbeats 4000000 in
set_option maxRecDepth 100000 in
theorem corr101_2 (w:World):Calls Tryz.prog 101 #[.int .i64 2] w fun e w'=>e=.returned (.tuple #[.agg (arr40 ecT2),.agg (arr40 blT2)])/\Below w.heap.size w w':=by
 go_enter Tryz.func101,Tryz.ntmps101
 go_wp2_with (first | ((with_reducible refine gate_dst (N:=2) rfl ?_);refine wpList_allocA rfl 167 rfl _ (alloc167 _) ?_) | ((with_reducible refine gate_dst (N:=3) rfl ?_);refine wpList_allocA rfl 167 rfl _ (alloc167 _) ?_) | ((with_reducible refine gate_dst (N:=17) rfl ?_);refine wpList_buildA rfl 167 (parts40 ecT2) rfl (vals40 ecT2) (ecT2_parts _) _ (ecT2_run _) ?_) | ((with_reducible refine gate_dst (N:=18) rfl ?_);refine wpList_buildA rfl 167 (parts40 blT2) rfl (vals40 blT2) (blT2_parts _) _ (blT2_run _) ?_) | (refine wpList_store_row rfl 167 (.tmp 2) (.tmp 17) rfl w.heap.size (arr40 ecT2) rfl rfl 167 z40 (heap_alloc2_old _ _ _) (by rw [ecT2_size];exact info167) (by rw [ecT2_size];rfl) ecT2_one ?_) | (refine wpList_store_row rfl 167 (.tmp 3) (.tmp 18) rfl (w.heap.size+1) (arr40 blT2) rfl rfl 167 z40 ((setRow_far _ (by omega)).trans (heap_alloc2_new _ _ _)) (by rw [blT2_size];exact info167) (by rw [blT2_size];rfl) blT2_one ?_))
 refine bodyPost_ret (results_cells2 (p:=2) (q:=3) (ty:=167) rfl _ _ w.heap.size (w.heap.size+1) 167 _ _ 40 3 rfl rfl ((setRow_far _ (by omega)).trans (setRow_heap _ _ _ _ 167 _ (heap_alloc2_old _ _ _))) (setRow_heap _ _ _ _ 167 _ ((setRow_far _ (by omega)).trans (heap_alloc2_new _ _ _))) Tryz.underlying167 (by rw [ecT2_size];exact info167) (by rw [blT2_size];exact info167)) rfl ⟨rfl,setRow_below _ (setRow_below _ (below_alloc (below_alloc (Below.refl _ _) _) _) (Nat.le_refl _)) (Nat.le_succ _)⟩
set_option maxHeartbeats 4000000 in
set_option maxRecDepth 100000 in
theorem corr101_3 (w:World):Calls Tryz.prog 101 #[.int .i64 3] w fun e w'=>e=.returned (.tuple #[.agg (arr40 ecT3),.agg (arr40 blT3)])/\Below w.heap.size w w':=by
 go_enter Tryz.func101,Tryz.ntmps101
 go_wp2_with (first | ((with_reducible refine gate_dst (N:=2) rfl ?_);refine wpList_allocA rfl 167 rfl _ (alloc167 _) ?_) | ((with_reducible refine gate_dst (N:=3) rfl ?_);refine wpList_allocA rfl 167 rfl _ (alloc167 _) ?_) | ((with_reducible refine gate_dst (N:=15) rfl ?_);refine wpList_buildA rfl 167 (parts40 ecT3) rfl (vals40 ecT3) (ecT3_parts _) _ (ecT3_run _) ?_) | ((with_reducible refine gate_dst (N:=16) rfl ?_);refine wpList_buildA rfl 167 (parts40 blT3) rfl (vals40 blT3) (blT3_parts _) _ (blT3_run _) ?_) | (refine wpList_store_row rfl 167 (.tmp 2) (.tmp 15) rfl w.heap.size (arr40 ecT3) rfl rfl 167 z40 (heap_alloc2_old _ _ _) (by rw [ecT3_size];exact info167) (by rw [ecT3_size];rfl) ecT3_one ?_) | (refine wpList_store_row rfl 167 (.tmp 3) (.tmp 16) rfl (w.heap.size+1) (arr40 blT3) rfl rfl 167 z40 ((setRow_far _ (by omega)).trans (heap_alloc2_new _ _ _)) (by rw [blT3_size];exact info167) (by rw [blT3_size];rfl) blT3_one ?_))
 refine bodyPost_ret (results_cells2 (p:=2) (q:=3) (ty:=167) rfl _ _ w.heap.size (w.heap.size+1) 167 _ _ 40 3 rfl rfl ((setRow_far _ (by omega)).trans (setRow_heap _ _ _ _ 167 _ (heap_alloc2_old _ _ _))) (setRow_heap _ _ _ _ 167 _ ((setRow_far _ (by omega)).trans (heap_alloc2_new _ _ _))) Tryz.underlying167 (by rw [ecT3_size];exact info167) (by rw [blT3_size];exact info167)) rfl ⟨rfl,setRow_below _ (setRow_below _ (below_alloc (below_alloc (Below.refl _ _) _) _) (Nat.le_refl _)) (Nat.le_succ _)⟩
end Go.Proofs.YtgccjgpdjkhpdaaGreat.B
namespace Go.Proofs.YtgccjgpdjkhpdaaGreat.B
open Go.RowKit Go.Proofs.YtgccjgpdjkhpdaaGreatW.PrintWords Go.Proofs.YtgccjgpdjkhpdaaGreatW.PrintLast Go.Proofs.YtgccjgpdjkhpdaaGreatW.PrintMore
set_option linter.unusedVariables false
set_option linter.unusedSimpArgs false
theorem arr40_one (l:List Int):(arr40 l).all (·.oneCell')=true:=by
 rw [Array.all_eq_true_iff_forall_mem]
 intro x hx
 unfold arr40 nums at hx
 obtain⟨y,_,rfl⟩:=List.mem_map.1 (by simpa using hx)
 rfl
theorem arr40_len (l:List Int):(arr40 l).size=l.length:=by simp [arr40,nums]
theorem z40_size:z40.size=40:=by rw [z40,arr40_len];simp
set_option maxHeartbeats 2000000 in
set_option maxRecDepth 8000 in
theorem corr55' (w:World)(v l:Nat)(E B:List Int)(hE:E.length=40)(hB:B.length=40)(hv:1<=v/\v<=40)
  (k:∀ W,Calls Tryz.prog 101 #[.int .i64 (l:Int)] W fun e w'=>e=.returned (.tuple #[.agg (arr40 E),.agg (arr40 B)])/\Below W.heap.size W w') :
  Calls Tryz.prog 55 #[.int .i64 (v:Int),.int .i64 (l:Int)] w fun e w'=>e=.returned (.tuple #[.int .i64 (E.getD (v-1) 0),.int .i64 (B.getD (v-1) 0)])/\Below w.heap.size w w':=by
 obtain⟨i,hi⟩:∃ i,v-1=i:=⟨_,rfl⟩
 rw [hi]
 obtain⟨ee,hee⟩:∃ ee,E.getD i 0=ee:=⟨_,rfl⟩
 obtain⟨bb,hbb⟩:∃ bb,B.getD i 0=bb:=⟨_,rfl⟩
 rw [hee,hbb]
 have HEE:=Aside0.mk hee
 have HBB:=Aside0.mk hbb
 have HII:=Aside0.mk hi
 have HE:=Aside0.mk hE
 have HBl:=Aside0.mk hB
 have hv1:1<=v:=hv.1
 have hv2:v<=40:=hv.2
 have K:=Aside0.mk k
 clear hE hB hv k hee hbb hi
 go_enter Tryz.func55,Tryz.ntmps55
 go_wp2_with fail
 refine (K.out w).mono ?_
 rintro e w1 ⟨rfl,hb1⟩
 have HB1:=Aside0.mk hb1
 have hz:w.heap.size<=w1.heap.size:=hb1.size
 clear hb1
 obtain⟨w2,hw2⟩:∃ w2,w2=(((w1.alloc (.cells z40 167)).alloc (.cells z40 167)).setRow w1.heap.size (arr40 E)).setRow (w1.heap.size+1) (arr40 B):=⟨_,rfl⟩
 have h1:Blk w2 w1.heap.size 167 (arr40 E):=by rw [hw2];exact (setRow_far _ (by omega)).trans (setRow_heap _ _ _ _ 167 _ (heap_alloc2_old _ _ _))
 have h2:Blk w2 (w1.heap.size+1) 167 (arr40 B):=by rw [hw2];exact setRow_heap _ _ _ _ 167 _ ((setRow_far _ (by omega)).trans (heap_alloc2_new _ _ _))
 have HB2:=Aside0.mk (show Below w.heap.size w w2 by rw [hw2];exact setRow_below _ (setRow_below _ ((HB1.out.alloc hz _).alloc (by simp;omega) _) hz) (by omega))
 have hi40:i<40:=by have:=HII.out;omega
 have hvi:(v:Int)-1=(i:Int):=by have:=HII.out;omega
 have c1:w2.cell? ⟨w1.heap.size,i,none⟩=some (.int .i64 (E.getD i 0)):=by
  have:=Blk.ucell (xs:=E) h1 (i:Int) (by omega) (by rw [HE.out];omega)
  rw [Int.toNat_natCast] at this
  rw [this];unfold rd;rw [Int.toNat_natCast]
 have c2:w2.cell? ⟨w1.heap.size+1,i,none⟩=some (.int .i64 (B.getD i 0)):=by
  have:=Blk.ucell (xs:=B) h2 (i:Int) (by omega) (by rw [HBl.out];omega)
  rw [Int.toNat_natCast] at this
  rw [this];unfold rd;rw [Int.toNat_natCast]
 rw [HEE.out] at c1
 rw [HBB.out] at c2
 have HW2:=Aside0.mk hw2
 have HS1:=Aside0.mk (heap_alloc2_old w1 (.cells z40 167) (.cells z40 167))
 have HS2:=Aside0.mk (show (((w1.alloc (.cells z40 167)).alloc (.cells z40 167)).setRow w1.heap.size (arr40 E)).heap[w1.heap.size+1]? = some (.cells z40 167 (0,0)) from (setRow_far _ (by omega)).trans (heap_alloc2_new _ _ _))
 have HI1:=Aside0.mk (show (Tryz.prog.info? 167).map (·.size)=some (arr40 E).size by rw [arr40_len,HE.out];exact info167)
 have HI2:=Aside0.mk (show (Tryz.prog.info? 167).map (·.size)=some (arr40 B).size by rw [arr40_len,HBl.out];exact info167)
 have HZ1:=Aside0.mk (show z40.size=(arr40 E).size by rw [arr40_len,HE.out];exact z40_size)
 have HZ2:=Aside0.mk (show z40.size=(arr40 B).size by rw [arr40_len,HBl.out];exact z40_size)
 clear h1 h2 hw2
 go_wp2_with (first | ((with_reducible refine gate_dst (N:=6) rfl ?_);refine wpList_allocA rfl 167 rfl _ (alloc167 _) ?_) | ((with_reducible refine gate_dst (N:=7) rfl ?_);refine wpList_allocA rfl 167 rfl _ (alloc167 _) ?_) | (refine wpList_store_row rfl 167 (.tmp 6) (.tmp 11) rfl w1.heap.size (arr40 E) rfl rfl 167 z40 HS1.out HI1.out HZ1.out (arr40_one _) ?_) | (refine wpList_store_row (g:=w1.heap.size+1) (cells:=arr40 B) (t:=167) (old:=z40) ?s1 167 (.tmp 7) (.tmp 12) ?s2 ?s3 ?s4 HS2.out HI2.out HZ2.out (arr40_one _) ?_;(case s1=>rfl);(case s2=>rfl);(case s3=>(first | rfl | simp [Act.eval,Act.put]));(case s4=>(first | rfl | simp [Act.eval,Act.put]))))
 rw [<- HW2.out]
 have hvw:IntKind.i64.wrap ((v:Int)-1)=(i:Int):=by rw [hvi];exact IntWalk.i64_in _ (by omega)
 have hq0:(0:Int)<=(i:Int):=by omega
 have hq1:(i:Int)<40:=by omega
 clear hvi
 go_quiet (fail)
 go_wp2
 go_ret2
 exact⟨rfl,pw_below_drewN HB2.out _⟩
def ecTab (l:Nat):List Int:=if l=0 then ecT0 else if l=1 then ecT1 else if l=2 then ecT2 else ecT3
def blTab (l:Nat):List Int:=if l=0 then blT0 else if l=1 then blT1 else if l=2 then blT2 else blT3
theorem corr101 (W:World)(l:Nat)(h:l<4):Calls Tryz.prog 101 #[.int .i64 (l:Int)] W fun e w'=>e=.returned (.tuple #[.agg (arr40 (ecTab l)),.agg (arr40 (blTab l))])/\Below W.heap.size W w':=by
 have hl:l=0\/l=1\/l=2\/l=3:=by omega
 rcases hl with rfl | rfl | rfl | rfl
 ·exact corr101_0 W
 ·exact corr101_1 W
 ·exact corr101_2 W
 ·exact corr101_3 W
theorem tab_look:∀ v:Fin 40,∀ l:Fin 4,(ecTab l.val).getD v.val 0=(lvE (v.val+1) l.val:Int)/\(blTab l.val).getD v.val 0=((lvC (v.val+1) l.val+lvC2 (v.val+1) l.val:Nat):Int):=by decide +kernel
theorem tab_len:∀ l:Fin 4,(ecTab l.val).length=40/\(blTab l.val).length=40:=by decide +kernel
theorem corr55 (w:World)(v l:Nat)(hv:1<=v/\v<=40)(hl:l<4) :
  Calls Tryz.prog 55 #[.int .i64 (v:Int),.int .i64 (l:Int)] w fun e w'=>e=.returned (.tuple #[.int .i64 (lvE v l:Int),.int .i64 ((lvC v l+lvC2 v l:Nat):Int)])/\Below w.heap.size w w':=by
 have ht:=tab_look ⟨v-1,by omega⟩ ⟨l,hl⟩
 have hlen:=tab_len ⟨l,hl⟩
 simp only [show v-1+1=v by omega] at ht
 have:=corr55' w v l (ecTab l) (blTab l) hlen.1 hlen.2 hv (fun W=>corr101 W l hl)
 rw [ht.1,ht.2] at this
 exact this
theorem total_look:∀ v:Fin 40,F.spec_QRTotal.f 60 ((v.val+1:Nat):Int)=some ((roomN (v.val+1)/8:Nat):Int):=by decide +kernel
theorem total56 (w:World)(v:Nat)(hv:1<=v/\v<=40):Calls Tryz.prog 56 #[.int .i64 (v:Int)] w fun e w'=>e=.returned (.int .i64 ((roomN v/8:Nat):Int))/\Below w.heap.size w w':=by
 have h:=total_look ⟨v-1,by omega⟩
 simp only [show v-1+1=v by omega] at h
 refine (F.spec_QRTotal.calls 60 v _ w h).mono ?_
 rintro e w' ⟨rfl,hb⟩
 exact⟨rfl,hb⟩
def roomD (v l:Nat):Nat:=lvD v l*(lvC v l+lvC2 v l)+lvC2 v l
theorem words22 (w:World)(v l:Nat)(hv:1<=v/\v<=40)(hl:l<4):Calls Tryz.prog 22 #[.int .i64 (v:Int),.int .i64 (l:Int)] w fun e w'=>e=.returned (.int .i64 (roomD v l:Int))/\Below w.heap.size w w':=by
 have k1:=corr55 w v l hv hl
 have L:=lay_at v l hv hl
 have h1:=L.tot
 have h2:=(tot_row v hv).2
 have K2:=Aside0.mk (fun W=>total56 W v hv)
 obtain⟨e,he⟩:∃ e,lvE v l=e:=⟨_,rfl⟩
 obtain⟨n,hn⟩:∃ n,lvC v l+lvC2 v l=n:=⟨_,rfl⟩
 obtain⟨T,hT⟩:∃ T,roomN v/8=T:=⟨_,rfl⟩
 obtain⟨q,hq⟩:∃ q,e*n=q:=⟨_,rfl⟩
 have hr:T=roomD v l+q:=by unfold roomD;rw [he,hn,hT,hq] at h1;rw [hn];omega
 obtain⟨r,hrr⟩:∃ r,roomD v l=r:=⟨_,rfl⟩
 rw [he,hn] at k1
 rw [hrr] at hr ⊢
 rw [hT] at K2
 have hT5:T<=5000:=by omega
 have hqw:wrap64 ((e:Int)*(n:Int))=(q:Int):=by
  have:(e:Int)*(n:Int)=(q:Int):=by rw [<- hq];simp
  rw [this];unfold wrap64;omega
 have hrw:(T:Int)-(q:Int)=(r:Int):=by omega
 clear L h1 h2 he hn hT hq hrr hr
 go_enter Tryz.func22,Tryz.ntmps22
 go_wp2_with (first | (go_at_call 55;refine k1.mono ?_;rintro e w1 ⟨rfl,hb1⟩;have HB1:=Aside0.mk hb1;clear hb1) | (go_at_call 56;refine (K2.out _).mono ?_;rintro e w2 ⟨rfl,hb2⟩;have HB2:=Aside0.mk (HB1.out.trans (hb2.mono HB1.out.size));clear hb2))
 go_ret
 exact⟨by rfl,HB2.out⟩
def pack (bits:List Bool):List Nat:=(List.range (bits.length/8)).map fun j=>bval (seg bits (8*j) 8)
def packTo (bits:List Bool)(i:Nat):List Nat:=(List.range i).map (fun j=>bval (seg bits (8*j) 8))++List.replicate (bits.length/8-i) 0
theorem packTo_len (bits:List Bool)(i:Nat)(h:i<=bits.length/8):(packTo bits i).length=bits.length/8:=by simp [packTo];omega
theorem packTo_all (bits:List Bool):packTo bits (bits.length/8)=pack bits:=by simp [packTo,pack]
theorem packTo_zero (bits:List Bool):packTo bits 0=List.replicate (bits.length/8) 0:=by simp [packTo]
theorem packTo_set (bits:List Bool)(i:Nat)(h:i<bits.length/8):(packTo bits i).set i (bval (seg bits (8*i) 8))=packTo bits (i+1):=by
 unfold packTo
 have hl:((List.range i).map (fun j=>bval (seg bits (8*j) 8))).length=i:=by simp
 rw [List.set_append_right _ _ (by omega),hl,Nat.sub_self,show bits.length/8-i=(bits.length/8-(i+1))+1 by omega,List.replicate_succ,List.set_cons_zero,List.range_succ,List.map_append,List.append_assoc]
 rfl
theorem packTo_set0 (bits:List Bool)(i:Nat)(h:i<bits.length/8):(packTo bits i).set i 0=packTo bits i:=by
 unfold packTo
 have hl:((List.range i).map (fun j=>bval (seg bits (8*j) 8))).length=i:=by simp
 rw [List.set_append_right _ _ (by omega),hl,Nat.sub_self,show bits.length/8-i=(bits.length/8-(i+1))+1 by omega,List.replicate_succ,List.set_cons_zero]
theorem seg_next (bits:List Bool)(s k:Nat)(h:s+k<bits.length):bval (seg bits s (k+1))=2*bval (seg bits s k)+(bits.getD (s+k) false).toNat:=by
 rw [seg_split,bval_append]
 have e:seg bits (s+k) 1=[bits.getD (s+k) false]:=by
  unfold seg
  rw [List.drop_eq_getElem_cons h,List.getD_eq_getElem?_getD,List.getElem?_eq_getElem h]
  rfl
 rw [e]
 simp only [List.length_singleton,Nat.pow_one]
 have:bval [bits.getD (s+k) false]=(bits.getD (s+k) false).toNat:=by simp [bval]
 omega
theorem pack_lt (bits:List Bool):AllLt 8 (pack bits):=by
 intro x hx
 unfold pack at hx
 obtain⟨j,_,rfl⟩:=List.mem_map.1 hx
 refine Nat.lt_of_lt_of_le (bval_lt _) (Nat.pow_le_pow_right (by decide) ?_)
 unfold seg
 simp
 omega
set_option maxHeartbeats 2000000 in
set_option maxRecDepth 8000 in
theorem bytes68 (w:World)(A:Option Addr)(c n:Nat)(bits:List Bool)(hn:bits.length=n)(hC:Kd.C Kd.bool w A n bits)(hl:n<=1000000) :
  Calls Tryz.prog 68 #[.slice A n c] w fun e w'=>e=.returned (.slice (some ⟨w.heap.size,0,none⟩) (n/8) (n/8))/\UBlk w' w.heap.size (pack bits)/\Below w.heap.size w w':=by
 obtain⟨N,hN⟩:∃ N,n/8=N:=⟨_,rfl⟩
 have hmk:=make_u8 N (by omega) w
 have hN8:(n:Int)/8=(N:Int):=by omega
 have h8:8*N<=n:=by omega
 obtain⟨w1,hw1⟩:∃ w1,w1=w.alloc (.cells (nums .u8 (ints (List.replicate N 0))).toArray 5):=⟨_,rfl⟩
 obtain⟨g,hg⟩:∃ g,g=w.heap.size:=⟨_,rfl⟩
 rw [<- hw1,<- hg] at hmk
 rw [hN,<- hg]
 have HB:=Aside0.mk (show UBlk w1 g (packTo bits 0) by rw [packTo_zero,hn,hN,hw1,hg];exact Blk.new _ _ _)
 have HBel:=Aside0.mk (show Below g w w1 by rw [hw1,hg];exact below_alloc (Below.refl _ _) _)
 have HC:=Aside0.mk (show ∀ W,Below g w W->ReadsOf Value.bool false W A n bits from fun W hb=>Kd.reads_of_C (Kd.C_below hC (by rw [hg] at hb;exact hb)))
 have HN:=Aside0.mk hn
 have HNN:=Aside0.mk hN
 have HGE:=Aside0.mk hg
 clear hw1 hg hC hn hN
 go_enter Tryz.func68,Tryz.ntmps68
 go_wp2_with fail
 clear hmk hN8
 go_loopw [12] (fun vi wr=>∃ i:Nat,vi=.int .i64 (i:Int)/\i<=N/\Aside0 (UBlk wr g (packTo bits i))/\Aside0 (Below g w wr)) (fun vi _=>(N-intOf vi).toNat)
 case atStart=>exact⟨0,rfl,Nat.zero_le _,HB,HBel⟩
 case round=>
  clear HB HBel
  obtain⟨i,rfl,hi,HB,HBel⟩:=hrel
  by_cases hin:i<N
  ·have HI:=Aside0.mk (show i<bits.length/8 by rw [HN.out,HNN.out];exact hin)
   go_wp2_with fail
   have HB0:=Aside0.mk (show UBlk wr g ((packTo bits i).set i (bval (seg bits (8*i) 0))) by
    have e:bval (seg bits (8*i) 0)=0:=by unfold seg;simp [bval]
    rw [e,packTo_set0 _ _ HI.out];exact HB.out)
   go_loopw [5] (fun vk wx=>∃ k:Nat,vk=.int .i64 (k:Int)/\k<=8/\Aside0 (UBlk wx g ((packTo bits i).set i (bval (seg bits (8*i) k))))/\Aside0 (Below g w wx)) (fun vk _=>(8-intOf vk).toNat)
   case atStart=>exact⟨0,rfl,Nat.zero_le _,HB0,HBel⟩
   case round=>
    clear HB0 HBel HB
    obtain⟨k,rfl,hk,HB,HBel⟩:=hrel
    by_cases hk8:k<8
    ·have hlen:(packTo bits i).length=N:=by rw [packTo_len _ _ (Nat.le_of_lt HI.out),HN.out,HNN.out]
     obtain⟨a,ha⟩:∃ a,bval (seg bits (8*i) k)=a:=⟨_,rfl⟩
     have ha8:a<128:=by
      rw [<- ha]
      refine Nat.lt_of_lt_of_le (bval_lt _) (show (2:Nat) ^ (seg bits (8*i) k).length<=2 ^ 7 from Nat.pow_le_pow_right (by decide) (by unfold seg;simp;omega))
     obtain⟨p,hp⟩:∃ p,8*i+k=p:=⟨_,rfl⟩
     have hpn:p<n:=by omega
     have hpi:8*(i:Int)+(k:Int)=(p:Int):=by omega
     obtain⟨b,hb⟩:∃ b,bits.getD p false=b:=⟨_,rfl⟩
     have HNX:=Aside0.mk (show bval (seg bits (8*i) (k+1))=2*a+b.toNat by rw [seg_next bits (8*i) k (by rw [HN.out];omega),ha,hp,hb])
     obtain⟨ad,e0,hcell⟩:=(HC.out _ HBel.out).2.2 (by omega)
     subst e0
     have r0:=hcell p hpn
     rw [hb] at r0
     have hw0:=((HC.out w (Below.refl _ _)).2.2 (by omega))
     have hadg:(ad.add p).block≠g:=by
      obtain⟨ad',e1,hc1⟩:=hw0
      injection e1 with e1
      subst e1
      have:=World.block_lt_of_cell? _ _ (hc1 p hpn)
      have h2:=HGE.out
      omega
     have r1:∀ u,(wr.setCell ⟨g,i,none⟩ u).cell? (ad.add p)=some (.bool b):=fun u=>by
      rw [World.cell?_setCell_other _ _ _ _ (fun e=>hadg (by rw [<- e]))]
      exact r0
     have hB1:=HB.out
     rw [ha] at hB1
     have y1:wr.cell? ⟨g,i,none⟩=some (.int .u8 (a:Int)):=by
      have:=UBlk.cell hB1 i (by rw [List.length_set,hlen];exact hin)
      rw [List.getD_eq_getElem?_getD,List.getElem?_set_self (by rw [hlen];exact hin)] at this
      exact this
     have y2:wr.frozen? ⟨g,i,none⟩=false:=Blk.frozen hB1 i
     have HSET:=Aside0.mk (show ∀ x y:Nat,UBlk ((wr.setCell ⟨g,i,none⟩ (.int .u8 (x:Int))).setCell ⟨g,i,none⟩ (.int .u8 (y:Int))) g ((packTo bits i).set i y) from fun x y=>by
      have:=(hB1.set i x).set i y
      simpa [List.set_set] using this)
     have HSET1:=Aside0.mk (show ∀ x:Nat,UBlk (wr.setCell ⟨g,i,none⟩ (.int .u8 (x:Int))) g ((packTo bits i).set i x) from fun x=>by
      have:=hB1.set i x
      simpa [List.set_set] using this)
     clear ha hp hb hcell hw0 hadg hB1 hlen r0
     cases b
     ·go_wp2
      go_roundw
      case rel=>exact⟨k+1,by go_num,by omega,⟨by rw [HNX.out];have:=HSET1.out (2*a);rw [show ((2*a:Nat):Int)=(a:Int)*2 by omega] at this;exact this⟩,⟨Below.setc HBel.out (Nat.le_refl _) _⟩⟩
      case measure=>simp [intOf]<;>omega
     ·go_wp2
      go_roundw
      case rel=>exact⟨k+1,by go_num,by omega,⟨by rw [HNX.out];have:=HSET.out (2*a) (2*a+1);rw [show ((2*a:Nat):Int)=(a:Int)*2 by omega,show ((2*a+1:Nat):Int)=(a:Int)*2+1 by omega] at this;exact this⟩,⟨Below.setc (Below.setc HBel.out (Nat.le_refl _) _) (Nat.le_refl _) _⟩⟩
      case measure=>simp [intOf]<;>omega
    ·have:k=8:=by omega
     subst this
     go_wp2
     go_roundw
     case rel=>exact⟨i+1,by go_num,by omega,⟨by rw [<- packTo_set _ _ HI.out];exact HB.out⟩,HBel⟩
     case measure=>simp [intOf]<;>omega
  ·have:N=i:=by omega
   subst this
   go_wp2
   go_ret
   exact⟨rfl,by rw [<- packTo_all,HN.out,HNN.out];exact HB.out,HBel.out⟩
def endBits (bits:List Bool)(room:Nat):List Bool :=
 bits++natBits 0 (min 4 (8*room-bits.length))++natBits 0 ((8-(bits++natBits 0 (min 4 (8*room-bits.length))).length%8)%8)
def padAt (i:Nat):Nat:=if i%2=0 then 236 else 17
def dataWords (bits:List Bool)(room:Nat):List Nat:=pack (endBits bits room)++(List.range (room-(pack (endBits bits room)).length)).map padAt
theorem endBits_len (bits:List Bool)(room:Nat)(h:bits.length<=8*room):(endBits bits room).length%8=0/\(endBits bits room).length<=8*room/\bits.length<=(endBits bits room).length:=by
 unfold endBits
 rw [List.length_append,natBits_len,List.length_append,natBits_len]
 omega
theorem pack_len (bits:List Bool):(pack bits).length=bits.length/8:=by simp [pack]
theorem dataWords_len (bits:List Bool)(room:Nat)(h:bits.length<=8*room):(dataWords bits room).length=room:=by
 have:=endBits_len bits room h
 unfold dataWords
 rw [List.length_append,List.length_map,List.length_range,pack_len]
 omega
theorem dataWords_lt (bits:List Bool)(room:Nat):AllLt 8 (dataWords bits room):=by
 intro x hx
 unfold dataWords at hx
 rcases List.mem_append.1 hx with h | h
 ·exact pack_lt _ x h
 ·obtain⟨i,_,rfl⟩:=List.mem_map.1 h
  unfold padAt
  split<;>decide
theorem bits8_val:∀ l:List Bool,l.length=8->byteBits (bval l)=l:=by
 intro l h
 have h1:bval l<2 ^ 8:=by have:=bval_lt l;rwa [h] at this
 have key:∀ a b c d e f g i:Bool,byteBits (bval [a,b,c,d,e,f,g,i])=[a,b,c,d,e,f,g,i]:=by decide
 match l,h with
 | [a,b,c,d,e,f,g,i],_=>exact key a b c d e f g i
theorem stream_append (a b:List Nat):streamBits (a++b)=streamBits a++streamBits b:=by simp [streamBits]
theorem stream_pack_to (bits:List Bool):∀ k,8*k<=bits.length->streamBits ((List.range k).map fun j=>bval (seg bits (8*j) 8))=bits.take (8*k):=by
 intro k
 induction k with
 | zero=>intro _;simp [streamBits]
 | succ k ih=>
  intro h
  rw [List.range_succ,List.map_append,stream_append,ih (by omega)]
  have e:streamBits ([k].map fun j=>bval (seg bits (8*j) 8))=seg bits (8*k) 8:=by
   simp only [List.map_cons,List.map_nil,streamBits,List.flatMap_cons,List.flatMap_nil,List.append_nil]
   exact bits8_val _ (seg_len bits (8*k) 8 (by omega))
  rw [e]
  unfold seg
  rw [show 8*(k+1)=8*k+8 by omega,List.take_add]
theorem stream_pack (bits:List Bool)(h:bits.length%8=0):streamBits (pack bits)=bits:=by
 unfold pack
 rw [stream_pack_to bits _ (by omega),List.take_of_length_le (by omega)]
theorem dataWords_says (bits:List Bool)(room:Nat)(h:bits.length<=8*room):∃ post,streamBits (dataWords bits room)=bits++post/\(post.length<4\/∃ q,post=natBits 0 4++q):=by
 have hl:=endBits_len bits room h
 refine⟨natBits 0 (min 4 (8*room-bits.length))++(natBits 0 ((8-(bits++natBits 0 (min 4 (8*room-bits.length))).length%8)%8)++streamBits ((List.range (room-(pack (endBits bits room)).length)).map padAt)),?_,?_⟩
 ·unfold dataWords
  rw [stream_append,stream_pack _ hl.1]
  generalize streamBits ((List.range (room-(pack (endBits bits room)).length)).map padAt)=T
  unfold endBits
  simp only [List.append_assoc]
 ·by_cases h4:bits.length+4<=8*room
  ·right
   rw [show min 4 (8*room-bits.length)=4 by omega]
   exact⟨_,rfl⟩
  ·left
   have e:(endBits bits room).length=8*room:=by
    have:=hl.1
    have:=hl.2.2
    have:=hl.2.1
    by_cases hb:bits.length=8*room
    ·omega
    ·unfold endBits
     rw [List.length_append,natBits_len,List.length_append,natBits_len]
     omega
   rw [List.length_append,List.length_append,streamBits_len,List.length_map,List.length_range,pack_len,e,natBits_len,natBits_len,List.length_append,natBits_len]
   omega
theorem BOwn.reads {w:World}{base:Nat}{v:Value}{xs:List Bool}(h:BOwn w base v xs)(hl:xs.length<=100000000):∃ A c,v=.slice A xs.length c/\xs.length<=c/\Kd.C Kd.bool w A xs.length xs:=by
 have hr:Kd.R Kd.bool 4 w base (fun _=>True) v xs:=Kd.R_of_own h (fun _ _=>trivial)
 exact Kd.R_reads hr
theorem own_of_blk2 {w:World}{q base:Nat}{xs:List Int}(h:Blk w q 5 (nums .u8 xs).toArray)(hb:base<=q)(hl:xs.length<=1000000):w.ownsRow base 5 1 (.slice (some ⟨q,0,none⟩) xs.length xs.length) xs.length (nums .u8 xs) :=
 ⟨by simp [nums],.inr ⟨q,xs.length,(nums .u8 xs).toArray,rfl,hb,h,Nat.le_refl _,by simp [maxLen];omega,by simp [nums],by rw [Nat.mul_one];exact List.take_of_length_le (by simp [nums])⟩⟩
theorem own_ublk {w:World}{g base:Nat}{xs:List Nat}(h:UBlk w g xs)(hb:base<=g)(hl:xs.length<=1000000):w.ownsRow base 5 1 (.slice (some ⟨g,0,none⟩) xs.length xs.length) xs.length (nums .u8 (ints xs)):=by
 have:=own_of_blk2 (w:=w) (q:=g) (base:=base) (xs:=ints xs) h hb (by rw [ints_len];exact hl)
 rwa [ints_len] at this
theorem pad0 (W:World):(Instr.index 124 (.agg #[.int .u8 236,.int .u8 17]) (.int .i64 0)).run Tryz.prog W=.ok (.int .u8 236) W:=by kernel_rfl
theorem pad1 (W:World):(Instr.index 124 (.agg #[.int .u8 236,.int .u8 17]) (.int .i64 1)).run Tryz.prog W=.ok (.int .u8 17) W:=by kernel_rfl
theorem ints_append (a b:List Nat):ints (a++b)=ints a++ints b:=by simp [ints]
theorem BOwn.shape {w:World}{base:Nat}{v:Value}{xs:List Bool}(h:BOwn w base v xs):∃ A c,v=.slice A xs.length c:=own_slice h
theorem qrAddI (w0 w:World)(base n k:Nat)(v:Value)(xs:List Bool)(a b:Int)(ha:a=(n:Int))(hb:b=(k:Int))(hO:BOwn w base v xs)(hB:Below base w0 w)(hbase:base<=w.heap.size)(hn:n<2147483648)(hk:k<=60)(hxl:xs.length<=10000000) :
  Calls Tryz.prog 66 #[v,.int .i64 a,.int .i64 b] w fun e w'=>∃ v',e=.returned v'/\BOwn w' base v' (xs++natBits n k)/\Below base w0 w'/\GrowR w w' v v':=by
 subst ha hb
 exact qrAdd w0 w base n k v xs hO hB hbase hn hk hxl
set_option maxHeartbeats 1000000 in
set_option maxRecDepth 8000 in
theorem words32 (w:World)(A:Option Addr)(c n v l:Nat)(segs:List F.S98)(hS:Kd.C F.k98 w A n segs)(hn:segs.length=n)(hv:1<=v/\v<=40)(hl:l<4)(hs:∀ s∈segs,SegOK s v)(hn2:n<=200)
  (hfit:(sgStream (segs.map toSg) v).length<=8*roomD v l) :
  Calls Tryz.prog 32 #[.slice A n c,.int .i64 (v:Int),.int .i64 (l:Int)] w fun e w'=>∃ v',e=.returned (.tuple #[v',.bool true])/\w'.ownsRow w.heap.size 5 1 v' (roomD v l) (nums .u8 (ints (dataWords (sgStream (segs.map toSg) v) (roomD v l))))/\Below w.heap.size w w':=by
 have k1:=stream67 w A c n v segs hS hn hv hs hn2
 have K22:=Aside0.mk (fun W=>words22 W v l hv hl)
 obtain⟨bits,hbits⟩:∃ bits,sgStream (segs.map toSg) v=bits:=⟨_,rfl⟩
 have L:=lay_at v l hv hl
 have hroom:roomD v l<=5000:=by
  have h1:=L.tot
  have h2:=(tot_row v hv).2
  unfold roomD
  omega
 obtain⟨room,hr⟩:∃ room,roomD v l=room:=⟨_,rfl⟩
 rw [hbits] at k1 hfit ⊢
 rw [hr] at K22 hfit hroom ⊢
 obtain⟨m,hm⟩:∃ m,bits.length=m:=⟨_,rfl⟩
 rw [hm] at hfit
 have HM:=Aside0.mk hm
 clear hS hn hs hbits L hr hv hl hm
 go_enter Tryz.func32,Tryz.ntmps32
 go_wp2_with fail
 refine k1.mono ?_
 rintro e w1 ⟨v1,rfl,hO1,hB1⟩
 obtain⟨A1,c1,hv1⟩:=hO1.shape
 rw [HM.out] at hv1
 subst hv1
 have HO1:=Aside0.mk hO1
 have HB1:=Aside0.mk hB1
 clear hO1 hB1 k1
 go_wp2_with fail
 refine (K22.out w1).mono ?_
 rintro e w2 ⟨rfl,hB2⟩
 have HO2:=Aside0.mk (HO1.out.under hB2)
 have HB2:=Aside0.mk (HB1.out.trans (hB2.mono HB1.out.size))
 clear hB2
 obtain⟨r4,hr4⟩:∃ r4:Nat,min 4 (8*room-m)=r4:=⟨_,rfl⟩
 have hr44:r4<=4:=by omega
 obtain⟨bits2,hb2⟩:∃ bits2,bits++natBits 0 r4=bits2:=⟨_,rfl⟩
 have HE2:=Aside0.mk (show bits++natBits 0 (min 4 (8*room-bits.length))=bits2 by rw [HM.out,hr4,hb2])
 obtain⟨m2,hm2⟩:∃ m2,bits2.length=m2:=⟨_,rfl⟩
 have hm2l:m2<=8*room:=by rw [<- hm2,<- hb2,List.length_append,natBits_len,HM.out];omega
 have HM2:=Aside0.mk hm2
 have hfi:(m:Int)<=8*(room:Int):=by omega
 have hcs:(r4=4/\m+4<=8*room)\/(r4<=3/\(8*(room:Int)-(m:Int))=(r4:Int)):=by omega
 obtain⟨r5,hr5⟩:∃ r5:Nat,(8-m2%8)%8=r5:=⟨_,rfl⟩
 have hr58:r5<=7:=by omega
 obtain⟨bits3,hb3⟩:∃ bits3,bits2++natBits 0 r5=bits3:=⟨_,rfl⟩
 have HE3:=Aside0.mk (show endBits bits room=bits3 by unfold endBits;rw [HE2.out,HM2.out,hr5,hb3])
 obtain⟨m3,hm3⟩:∃ m3,bits3.length=m3:=⟨_,rfl⟩
 have HM3:=Aside0.mk hm3
 have h5i:-((m2:Int)%8)%8=(r5:Int):=by omega
 have hm3l:m3<=8*room:=by have:=endBits_len bits room (by rw [HM.out];exact hfit);rw [HE3.out,hm3] at this;omega
 obtain⟨N3,hN3⟩:∃ N3,m3/8=N3:=⟨_,rfl⟩
 have hN3r:N3<=room:=by omega
 have HN3:=Aside0.mk hN3
 have HB3E:=Aside0.mk hb3
 have HPL:=Aside0.mk (show (pack bits3).length=N3 by rw [pack_len,hm3,hN3])
 have HDW:=Aside0.mk (show dataWords bits room=pack bits3++(List.range (room-N3)).map padAt by unfold dataWords;rw [HE3.out,HPL.out])
 have H5I:=Aside0.mk h5i
 clear hr5 hb3 hm3 hN3 h5i
 clear hr4 hm2
 rcases hcs with⟨rfl,h4⟩ | ⟨h4,h5⟩
 ·have k2:=qrAddI w w2 w.heap.size 0 4 (.slice A1 m c1) bits 0 4 rfl rfl HO2.out HB2.out HB2.out.size (by decide) (by omega) (by rw [HM.out];omega)
  rw [hb2] at k2
  clear hb2
  have h5i:=H5I.out
  go_wp2_with fail
  refine k2.mono ?_
  rintro e w3 ⟨v3,rfl,hO3,hB3,hG3⟩
  obtain⟨A3,c3,hv3⟩:=hO3.shape
  rw [HM2.out] at hv3
  subst hv3
  have HO3:=Aside0.mk hO3
  have HB3:=Aside0.mk hB3
  clear hO3 hB3 hG3
  clear k2
  have k3:=qrAddI w w3 w.heap.size 0 r5 (.slice A3 m2 c3) bits2 0 (r5:Int) rfl rfl HO3.out HB3.out HB3.out.size (by decide) (by omega) (by rw [HM2.out];omega)
  rw [HB3E.out] at k3
  go_wp2_with fail
  refine k3.mono ?_
  rintro e w4 ⟨v4,rfl,hO4,hB4,hG4⟩
  obtain⟨A4,c4,hv4⟩:=hO4.shape
  rw [HM3.out] at hv4
  subst hv4
  have HO4:=Aside0.mk hO4
  have HB4:=Aside0.mk hB4
  clear hO4 hB4 hG4
  clear k3 h5i
  obtain⟨A5,c5,hv5,hc5,hC5⟩:=HO4.out.reads (by rw [HM3.out];omega)
  rw [HM3.out] at hv5 hc5 hC5
  injection hv5 with e1 e2 e3
  subst e1 e3
  have k5:=bytes68 w4 A4 c4 m3 bits3 HM3.out hC5 (by omega)
  rw [HN3.out] at k5
  clear hC5 hc5 e2
  go_wp2_with fail
  refine k5.mono ?_
  rintro e w5 ⟨rfl,hU5,hB5⟩
  have HU5:=Aside0.mk hU5
  have HB5:=Aside0.mk (HB4.out.trans (hB5.mono HB4.out.size))
  clear hU5 hB5
  clear k5
  go_wp2_with fail
  have HO5:=Aside0.mk (show w5.ownsRow w.heap.size 5 1 (.slice (some ⟨w4.heap.size,0,none⟩) N3 N3) N3 (nums .u8 (ints (pack bits3++(List.range 0).map padAt))) by
   have h:=own_ublk (base:=w.heap.size) HU5.out HB4.out.size (by rw [HPL.out];omega)
   rw [HPL.out] at h
   simpa using h)
  obtain⟨g5,hg5⟩:∃ g5,g5=w4.heap.size:=⟨_,rfl⟩
  rw [<- hg5] at HO5 ⊢
  clear hg5
  go_loopw [11,12] (fun vo vi wr=>∃ (i k c':Nat) (A':Option Addr),vi=.int .i64 (i:Int)/\vo=.slice A' k c'/\k=N3+i/\k<=room/\Aside0 (wr.ownsRow w.heap.size 5 1 (.slice A' k c') k (nums .u8 (ints (pack bits3++(List.range i).map padAt))))/\Aside0 (Below w.heap.size w wr)) (fun vo _ _=>(room-sliceLen vo).toNat)
  case atStart=>exact⟨0,N3,N3,_,rfl,rfl,by omega,hN3r,HO5,HB5⟩
  case round=>
   clear HO5 HB5 HU5
   obtain⟨i,k,c',A',rfl,rfl,hk,hkr,HO,HB⟩:=hrel
   have HKI:=Aside0.mk hk
   clear hk
   by_cases hlt:k<room
   ·obtain⟨j,hj⟩:∃ j,i%2=j:=⟨_,rfl⟩
    have hji:(i:Int)%2=(j:Int):=by omega
    obtain⟨x,hx⟩:∃ x,padAt i=x:=⟨_,rfl⟩
    have hidx:∀ W,(Instr.index 124 (.agg #[.int .u8 236,.int .u8 17]) (.int .i64 (j:Int))).run Tryz.prog W=.ok (.int .u8 (x:Int)) W:=by
     intro W
     rw [<- hx]
     unfold padAt
     have:j=0\/j=1:=by omega
     rcases this with rfl | rfl
     ·rw [if_pos hj];exact pad0 W
     ·rw [if_neg (by omega)];exact pad1 W
    have HX:=Aside0.mk hx
    have hi5:i<=5000:=by have:=HKI.out;omega
    clear hj hx
    have HLk:=Aside0.mk (show (ints (pack bits3++(List.range i).map padAt)).length=k by rw [ints_len,List.length_append,List.length_map,List.length_range,HPL.out,HKI.out])
    go_wp2_with (first | ((with_reducible refine gate_builtin (b:=.append) (xs:=#[.tmp 54,.tmp 59]) rfl ?_);at_builtin;refine print_append_num (w0:=w) w.heap.size rfl (.tmp 54) (.tmp 59) 26 5 .u8 1 rfl Tryz.underlying26 F.info5 (by decide) (.slice A' k c') (ints (pack bits3++(List.range i).map padAt)) (x:Int) rfl rfl ?aO HB.out HB.out.size ?aL ?_;(case aO=>(rw [HLk.out];exact HO.out));(case aL=>(rw [HLk.out];omega));intro v6 w6 ho6 hb6 hg6 hat6;rw [List.length_append,HLk.out] at ho6;obtain⟨A6,c6,hv6⟩:=own_slice ho6;subst hv6;have HO6:=Aside0.mk ho6;have HB6:=Aside0.mk hb6;clear ho6 hb6 hg6 hat6))
    clear hidx hji
    go_roundw
    case rel=>exact⟨i+1,k+1,c6,A6,by go_num,rfl,by have:=HKI.out;omega,by omega,⟨by have:=HO6.out;rw [List.range_succ,List.map_append,<- List.append_assoc,ints_append];simpa [ints,HX.out] using this⟩,HB6⟩
    case measure=>simp [sliceLen]<;>omega
   ·have:k=room:=by omega
    subst this
    go_wp2
    go_ret2
    exact⟨_,rfl,by rw [HDW.out,show k-N3=i by have:=HKI.out;omega];exact HO.out,HB.out⟩
 ·have k2:=qrAddI w w2 w.heap.size 0 r4 (.slice A1 m c1) bits 0 (r4:Int) rfl rfl HO2.out HB2.out HB2.out.size (by decide) (by omega) (by rw [HM.out];omega)
  rw [hb2] at k2
  clear hb2
  have h5i:=H5I.out
  go_wp2_with fail
  refine k2.mono ?_
  rintro e w3 ⟨v3,rfl,hO3,hB3,hG3⟩
  obtain⟨A3,c3,hv3⟩:=hO3.shape
  rw [HM2.out] at hv3
  subst hv3
  have HO3:=Aside0.mk hO3
  have HB3:=Aside0.mk hB3
  clear hO3 hB3 hG3
  clear k2
  have k3:=qrAddI w w3 w.heap.size 0 r5 (.slice A3 m2 c3) bits2 0 (r5:Int) rfl rfl HO3.out HB3.out HB3.out.size (by decide) (by omega) (by rw [HM2.out];omega)
  rw [HB3E.out] at k3
  go_wp2_with fail
  refine k3.mono ?_
  rintro e w4 ⟨v4,rfl,hO4,hB4,hG4⟩
  obtain⟨A4,c4,hv4⟩:=hO4.shape
  rw [HM3.out] at hv4
  subst hv4
  have HO4:=Aside0.mk hO4
  have HB4:=Aside0.mk hB4
  clear hO4 hB4 hG4
  clear k3 h5i
  obtain⟨A5,c5,hv5,hc5,hC5⟩:=HO4.out.reads (by rw [HM3.out];omega)
  rw [HM3.out] at hv5 hc5 hC5
  injection hv5 with e1 e2 e3
  subst e1 e3
  have k5:=bytes68 w4 A4 c4 m3 bits3 HM3.out hC5 (by omega)
  rw [HN3.out] at k5
  clear hC5 hc5 e2
  go_wp2_with fail
  refine k5.mono ?_
  rintro e w5 ⟨rfl,hU5,hB5⟩
  have HU5:=Aside0.mk hU5
  have HB5:=Aside0.mk (HB4.out.trans (hB5.mono HB4.out.size))
  clear hU5 hB5
  clear k5
  go_wp2_with fail
  have HO5:=Aside0.mk (show w5.ownsRow w.heap.size 5 1 (.slice (some ⟨w4.heap.size,0,none⟩) N3 N3) N3 (nums .u8 (ints (pack bits3++(List.range 0).map padAt))) by
   have h:=own_ublk (base:=w.heap.size) HU5.out HB4.out.size (by rw [HPL.out];omega)
   rw [HPL.out] at h
   simpa using h)
  obtain⟨g5,hg5⟩:∃ g5,g5=w4.heap.size:=⟨_,rfl⟩
  rw [<- hg5] at HO5 ⊢
  clear hg5
  go_loopw [11,12] (fun vo vi wr=>∃ (i k c':Nat) (A':Option Addr),vi=.int .i64 (i:Int)/\vo=.slice A' k c'/\k=N3+i/\k<=room/\Aside0 (wr.ownsRow w.heap.size 5 1 (.slice A' k c') k (nums .u8 (ints (pack bits3++(List.range i).map padAt))))/\Aside0 (Below w.heap.size w wr)) (fun vo _ _=>(room-sliceLen vo).toNat)
  case atStart=>exact⟨0,N3,N3,_,rfl,rfl,by omega,hN3r,HO5,HB5⟩
  case round=>
   clear HO5 HB5 HU5
   obtain⟨i,k,c',A',rfl,rfl,hk,hkr,HO,HB⟩:=hrel
   have HKI:=Aside0.mk hk
   clear hk
   by_cases hlt:k<room
   ·obtain⟨j,hj⟩:∃ j,i%2=j:=⟨_,rfl⟩
    have hji:(i:Int)%2=(j:Int):=by omega
    obtain⟨x,hx⟩:∃ x,padAt i=x:=⟨_,rfl⟩
    have hidx:∀ W,(Instr.index 124 (.agg #[.int .u8 236,.int .u8 17]) (.int .i64 (j:Int))).run Tryz.prog W=.ok (.int .u8 (x:Int)) W:=by
     intro W
     rw [<- hx]
     unfold padAt
     have:j=0\/j=1:=by omega
     rcases this with rfl | rfl
     ·rw [if_pos hj];exact pad0 W
     ·rw [if_neg (by omega)];exact pad1 W
    have HX:=Aside0.mk hx
    have hi5:i<=5000:=by have:=HKI.out;omega
    clear hj hx
    have HLk:=Aside0.mk (show (ints (pack bits3++(List.range i).map padAt)).length=k by rw [ints_len,List.length_append,List.length_map,List.length_range,HPL.out,HKI.out])
    go_wp2_with (first | ((with_reducible refine gate_builtin (b:=.append) (xs:=#[.tmp 54,.tmp 59]) rfl ?_);at_builtin;refine print_append_num (w0:=w) w.heap.size rfl (.tmp 54) (.tmp 59) 26 5 .u8 1 rfl Tryz.underlying26 F.info5 (by decide) (.slice A' k c') (ints (pack bits3++(List.range i).map padAt)) (x:Int) rfl rfl ?aO HB.out HB.out.size ?aL ?_;(case aO=>(rw [HLk.out];exact HO.out));(case aL=>(rw [HLk.out];omega));intro v6 w6 ho6 hb6 hg6 hat6;rw [List.length_append,HLk.out] at ho6;obtain⟨A6,c6,hv6⟩:=own_slice ho6;subst hv6;have HO6:=Aside0.mk ho6;have HB6:=Aside0.mk hb6;clear ho6 hb6 hg6 hat6))
    clear hidx hji
    go_roundw
    case rel=>exact⟨i+1,k+1,c6,A6,by go_num,rfl,by have:=HKI.out;omega,by omega,⟨by have:=HO6.out;rw [List.range_succ,List.map_append,<- List.append_assoc,ints_append];simpa [ints,HX.out] using this⟩,HB6⟩
    case measure=>simp [sliceLen]<;>omega
   ·have:k=room:=by omega
    subst this
    go_wp2
    go_ret2
    exact⟨_,rfl,by rw [HDW.out,show k-N3=i by have:=HKI.out;omega];exact HO.out,HB.out⟩
end Go.Proofs.YtgccjgpdjkhpdaaGreat.B
