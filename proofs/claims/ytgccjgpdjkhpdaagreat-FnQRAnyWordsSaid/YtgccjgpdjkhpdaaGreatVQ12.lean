import Derived.Test.YtgccjgpdjkhpdaaGreatVQ28
/-! Own texts of this claim, part 12. -/
namespace Go.Proofs.YtgccjgpdjkhpdaaGreat.B
open Go.RowKit Go.Proofs.YtgccjgpdjkhpdaaGreatW.PrintWords Go.Proofs.YtgccjgpdjkhpdaaGreatW.PrintLast Go.Proofs.YtgccjgpdjkhpdaaGreatW.PrintMore
set_option linter.unusedVariables false
set_option linter.unusedSimpArgs false
def zeroDec:Value:=.agg #[.string ⟨#[]⟩,.slice none 0 0,.slice none 0 0,.string ⟨#[]⟩,.int .i64 0,.int .i64 0,.int .i64 0,.int .i64 0]
theorem decoded_err (w:World)(v:Value)(t:TypeId)(x:Value):Calls Tryz.prog 35 #[v,.iface t x] w fun e w'=>e=.returned (.tuple #[zeroDec,.bool false])/\Below w.heap.size w w':=by
 go_enter Tryz.func35,Tryz.ntmps35
 go_wp2
 exact bodyPost_ret (v:=.tuple #[zeroDec,.bool false]) (by simp [results,Tryz.results35,go_sem,zeroDec]) rfl ⟨rfl,below_alloc (Below.refl _ _) _⟩
theorem name53 (w:World)(l:Nat)(hl:l<4):Calls Tryz.prog 53 #[.int .i64 (l:Int)] w fun e w'=>e=.returned (.string (lvName l))/\w=w':=by
 have hc:l=0\/l=1\/l=2\/l=3:=by omega
 rcases hc with rfl | rfl | rfl | rfl
 ·have i0:∀ W,(Instr.index 166 (.agg #[.string ⟨#[77]⟩,.string ⟨#[76]⟩,.string ⟨#[72]⟩,.string ⟨#[81]⟩]) (.int .i64 0)).run Tryz.prog W=.ok (.string (lvName 0)) W:=fun _=>by kernel_rfl
  go_enter Tryz.func53,Tryz.ntmps53
  go_wp2
  go_ret
  exact⟨rfl,rfl⟩
 ·have i0:∀ W,(Instr.index 166 (.agg #[.string ⟨#[77]⟩,.string ⟨#[76]⟩,.string ⟨#[72]⟩,.string ⟨#[81]⟩]) (.int .i64 1)).run Tryz.prog W=.ok (.string (lvName 1)) W:=fun _=>by kernel_rfl
  go_enter Tryz.func53,Tryz.ntmps53
  go_wp2
  go_ret
  exact⟨rfl,rfl⟩
 ·have i0:∀ W,(Instr.index 166 (.agg #[.string ⟨#[77]⟩,.string ⟨#[76]⟩,.string ⟨#[72]⟩,.string ⟨#[81]⟩]) (.int .i64 2)).run Tryz.prog W=.ok (.string (lvName 2)) W:=fun _=>by kernel_rfl
  go_enter Tryz.func53,Tryz.ntmps53
  go_wp2
  go_ret
  exact⟨rfl,rfl⟩
 ·have i0:∀ W,(Instr.index 166 (.agg #[.string ⟨#[77]⟩,.string ⟨#[76]⟩,.string ⟨#[72]⟩,.string ⟨#[81]⟩]) (.int .i64 3)).run Tryz.prog W=.ok (.string (lvName 3)) W:=fun _=>by kernel_rfl
  go_enter Tryz.func53,Tryz.ntmps53
  go_wp2
  go_ret
  exact⟨rfl,rfl⟩
def flatS (l:List F.S98):List Int:=l.flatMap fun s=>s.f1
theorem flatS_len (l:List F.S98)(b:Nat)(h:∀ s∈l,s.f1.length<=b):(flatS l).length<=b*l.length:=by
 induction l with
 | nil=>simp [flatS]
 | cons s l ih=>
  have h1:=ih (fun t ht=>h t (by simp [ht]))
  have h2:=h s (by simp)
  unfold flatS at *
  rw [List.flatMap_cons,List.length_append,List.length_cons,Nat.mul_add,Nat.mul_one]
  omega
set_option maxHeartbeats 4000000 in
set_option maxRecDepth 8000 in
theorem said24 (w:World)(A:Option Addr)(c n:Nat)(l:List F.S98)(hl:Kd.C F.k98 w A n l)(hn:l.length=n)(hb:∀ s∈l,s.f1.length<=10000/\∀ x∈s.f1,0<=x/\x<=255)(hn2:n<=10000) :
  Calls Tryz.prog 24 #[.slice A n c] w fun e w'=>e=.returned (if ascS l then .tuple #[.string (strOfNums (flatS l)),.bool true] else .tuple #[.string ⟨#[]⟩,.bool false])/\Below w.heap.size w w':=by
 have HC:=Aside0.mk hl
 have HN:=Aside0.mk hn
 have HS:=Aside0.mk hb
 have HN2:=Aside0.mk hn2
 obtain⟨R,hR⟩:∃ R,R=Ending.returned (if ascS l then .tuple #[.string (strOfNums (flatS l)),.bool true] else .tuple #[.string ⟨#[]⟩,.bool false]):=⟨_,rfl⟩
 rw [<- hR]
 have HR:=Aside0.mk hR
 clear hl hn hb hn2 hR
 go_enter Tryz.func24,Tryz.ntmps24
 go_wp2_with fail
 go_loopw [4,11] (fun v4 v11 wr=>∃ i:Nat,v11=.int .i64 (i:Int)/\i<=n/\Aside0 (wr.ownsRow w.heap.size 5 1 v4 (flatS (l.take i)).length (nums .u8 (flatS (l.take i))))/\Aside0 (Below w.heap.size w wr)/\Aside0 (ascS (l.take i)=true)) (fun _ v11 _=>(n-intOf v11).toNat)
 case atStart=>exact⟨0,rfl,Nat.zero_le _,⟨own_nil' _ _⟩,⟨Below.refl _ _⟩,⟨rfl⟩⟩
 case round=>
  obtain⟨i,rfl,hi,HO,HB,HA⟩:=hrel
  have hi9:i<=10000:=by have:=HN2.out;omega
  by_cases hin:i<n
  ·obtain⟨ad,A1,c1,e0,r0,r1,l1,g1⟩:=F.at_T98 HC.out (i:Int) (by omega) (by omega)
   rw [Int.toNat_natCast] at r0 r1
   obtain⟨s,hss⟩:∃ s,F.rd_T98 l i=s:=⟨_,rfl⟩
   rw [hss] at r0 r1 l1 g1
   have hgi:l[i]? = some s:=by
    have hlt:i<l.length:=by rw [HN.out];exact hin
    rw [List.getElem?_eq_getElem hlt,<- hss]
    unfold F.rd_T98
    rw [Int.toNat_natCast,List.getD_eq_getElem?_getD,List.getElem?_eq_getElem hlt]
    rfl
   have hso:=HS.out s (List.mem_of_getElem? hgi)
   have HGI:=Aside0.mk hgi
   have htk:l.take (i+1)=l.take i++[s]:=by rw [List.take_add_one,hgi];rfl
   have HTF:=Aside0.mk (show flatS (l.take (i+1))=flatS (l.take i)++s.f1 by rw [htk];simp [flatS])
   have HTA:=Aside0.mk (show ascS (l.take (i+1))=(ascS (l.take i) && s.f1.all isAsc) by rw [htk];simp [ascS])
   have HFL:=Aside0.mk (show (flatS (l.take i)).length<=100000000 by
    have h1:=flatS_len (l.take i) 10000 (fun t ht=>(HS.out t (List.mem_of_mem_take ht)).1)
    have h2:(l.take i).length<=10000:=by rw [List.length_take];have:=HN2.out;omega
    have h3:=Nat.mul_le_mul_left 10000 h2
    omega)
   obtain⟨fl,hfl⟩:∃ fl,flatS (l.take i)=fl:=⟨_,rfl⟩
   rw [hfl] at HO HTF HFL
   obtain⟨k,hk⟩:∃ k,s.f1.length=k:=⟨_,rfl⟩
   obtain⟨m,hm⟩:∃ m,s.f0=m:=⟨_,rfl⟩
   rw [hm] at r0
   rw [hk] at r1 l1 g1
   subst e0
   replace r0:=cell_up HB.out r0
   replace r1:=cell_up HB.out r1
   have HSO:=Aside0.mk hso
   have HK:=Aside0.mk hk
   have HG:=Aside0.mk g1
   have hk2:k<=10000:=by rw [<- hk];exact hso.1
   have HBA:=Aside0.mk (HB.out.alloc HB.out.size (.cells #[.int .i64 m,.slice A1 k c1] 98))
   have HOA:=Aside0.mk (own_under HO.out (below_alloc (Below.refl wr.heap.size wr) (.cells #[.int .i64 m,.slice A1 k c1] 98)))
   have HBK:=Aside0.mk (Blk.new wr 98 #[.int .i64 m,.slice A1 k c1])
   obtain⟨wa,hwa⟩:∃ wa,wa=wr.alloc (.cells #[.int .i64 m,.slice A1 k c1] 98):=⟨_,rfl⟩
   rw [<- hwa] at HBA HOA HBK
   have HWA:=Aside0.mk hwa
   have c1':=HBK.out.cell 1
   clear hso hss hgi hm hk hwa g1 hfl htk
   go_wp2_with fail
   rw [<- HWA.out]
   go_wp2_with fail
   clear r0 r1 c1'
   go_loopw [4,18] (fun v4 v18 wq=>∃ j:Nat,v18=.int .i64 (j:Int)/\j<=k/\Aside0 (wq.ownsRow w.heap.size 5 1 v4 (fl++s.f1.take j).length (nums .u8 (fl++s.f1.take j)))/\Aside0 (Below w.heap.size w wq)/\Aside0 ((s.f1.take j).all isAsc=true)) (fun _ v18 _=>(k-intOf v18).toNat)
   case atStart=>exact⟨0,rfl,Nat.zero_le _,⟨by rw [List.take_zero,List.append_nil];exact HOA.out⟩,HBA,⟨rfl⟩⟩
   case round=>
    clear HO HB HBA HOA HBK HWA
    obtain⟨j,rfl,hj,HO,HB,HJ⟩:=hrel
    by_cases hjk:j<k
    ·obtain⟨ax,ea,ra⟩:=ints_at HG.out j hjk
     subst ea
     replace ra:=cell_up HB.out ra
     obtain⟨x,hx⟩:∃ x,s.f1.getD j 0=x:=⟨_,rfl⟩
     rw [hx] at ra
     have hjl:j<s.f1.length:=by rw [HK.out];exact hjk
     have hxg:s.f1[j]=x:=by rw [<- hx,List.getD_eq_getElem?_getD,List.getElem?_eq_getElem hjl];rfl
     have HT:=Aside0.mk (show s.f1.take (j+1)=s.f1.take j++[x] by rw [List.take_succ_eq_append_getElem hjl,hxg])
     have hmem:x∈s.f1:=by rw [<- hxg];exact List.getElem_mem _
     obtain⟨hx0,hx1⟩:=HSO.out.2 x hmem
     have HMEM:=Aside0.mk hmem
     have HLL:=Aside0.mk (show (fl++s.f1.take j).length<=100010000 by rw [List.length_append,List.length_take];have:=HFL.out;omega)
     obtain⟨ys,hys⟩:∃ ys,fl++s.f1.take j=ys:=⟨_,rfl⟩
     have HYS:=Aside0.mk hys
     rw [hys] at HO HLL
     obtain⟨Ao,co,hvo⟩:=own_slice HO.out
     subst hvo
     clear hx hxg hmem hys hjl
     by_cases ha:32<=x/\x<=126
     ·obtain⟨ha1,ha2⟩:=ha
      go_wp2_with (first | ((with_reducible refine gate_builtin (b:=.append) (xs:=#[.tmp 28,.tmp 30]) rfl ?_);at_builtin;refine print_append_num (w0:=w) w.heap.size rfl (.tmp 28) (.tmp 30) 26 5 .u8 1 rfl Tryz.underlying26 F.info5 (by decide) (.slice Ao ys.length co) ys x rfl rfl HO.out HB.out HB.out.size ?aL ?_;(case aL=>(have:=HLL.out;omega));intro v6 w6 ho6 hb6 hg6 hat6;have HO6:=Aside0.mk ho6;have HB6:=Aside0.mk hb6;clear ho6 hb6 hg6 hat6))
      go_roundw
      case rel=>exact⟨j+1,by go_num,by omega,⟨by rw [HT.out,<- List.append_assoc,HYS.out];exact HO6.out⟩,HB6,⟨by rw [HT.out,List.all_append,HJ.out];simp [isAsc,ha1,ha2]⟩⟩
      case measure=>simp [intOf]<;>omega
     ·have hf:ascS l=false:=by
       rw [Bool.eq_false_iff]
       intro h
       unfold ascS at h
       rw [List.all_eq_true] at h
       have h1:=h s (List.mem_of_getElem? HGI.out)
       rw [List.all_eq_true] at h1
       have h2:=h1 x HMEM.out
       unfold isAsc at h2
       exact ha (of_decide_eq_true h2)
      have HF:=Aside0.mk hf
      clear hf
      have hxx:x<32\/(32<=x/\126<x):=by omega
      clear ha
      rcases hxx with hxx | ⟨hx1,hx2⟩
      all_goals
       go_wp2_with fail
       go_ret2
       refine⟨?_,HB.out⟩
       rw [HR.out,HF.out]
       rfl
    ·have:j=k:=by omega
     subst this
     have hta:s.f1.take s.f1.length=s.f1:=List.take_length
     have hO2:=HO.out
     have hJ2:=HJ.out
     rw [<- HK.out,hta] at hO2 hJ2
     have HO3:=Aside0.mk hO2
     have HJ3:=Aside0.mk hJ2
     clear hO2 hJ2 hta
     go_wp2_with fail
     go_roundw
     case rel=>exact⟨i+1,by go_num,by omega,⟨by rw [HTF.out];exact HO3.out⟩,HB,⟨by rw [HTA.out,HA.out,HJ3.out];rfl⟩⟩
     case measure=>simp [intOf]<;>omega
  ·have:i=n:=by omega
   subst this
   have hall:l.take l.length=l:=List.take_length
   have hO2:=HO.out
   have hA2:=HA.out
   rw [<- HN.out,hall] at hO2 hA2
   have HCV:=Aside0.mk (own_string (P:=Tryz.prog) (e':=5) Tryz.underlying26 Tryz.underlying5 Tryz.underlying9 hO2)
   have hcv:=HCV.out
   have HA2:=Aside0.mk hA2
   clear hO2 hA2 hall
   go_wp2_with fail
   go_ret2
   refine⟨?_,HB.out⟩
   rw [HR.out,HA2.out]
   rfl
end Go.Proofs.YtgccjgpdjkhpdaaGreat.B
