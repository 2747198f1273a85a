import Derived.Test.YtgccjgpdjkhpdaaGreatVQ29
import Derived.Test.YtgccjgpdjkhpdaaGreatVQ31
import Derived.Test.YtgccjgpdjkhpdaaGreatVQ36
/-! Own texts of this claim, part 38. -/
namespace Go.Proofs.YtgccjgpdjkhpdaaGreat.B
open Go.RowKit Go.Proofs.YtgccjgpdjkhpdaaGreatW.PrintWords Go.Proofs.YtgccjgpdjkhpdaaGreatW.PrintLast Go.Proofs.YtgccjgpdjkhpdaaGreatW.PrintMore
set_option linter.unusedVariables false
set_option linter.unusedSimpArgs false
theorem gs1_ne (x:Int)(l:List Int)(h:x≠37):gs1 (x :: l)=x :: gs1 l:=by
 cases l with
 | nil=>simp [gs1,h]
 | cons y l=>rw [gs1,if_neg h]
theorem gs1_twoB (l:List Int):gs1 (37 :: 37 :: l)=37 :: gs1 l:=by rw [gs1,if_pos rfl,if_pos rfl]
theorem gs1_sepB (y:Int)(l:List Int)(h:y≠37):gs1 (37 :: y :: l)=29 :: gs1 (y :: l):=by rw [gs1,if_pos rfl,if_neg h]
theorem gs1_end:gs1 [37]=[29]:=by simp [gs1]
def gsT (m:Int)(t:List Int):List Int:=if m=2 then gs1 t else t
def gsS (l:List F.S98):List Int:=l.flatMap fun s=>gsT s.f0 s.f1
theorem gs1_le:∀ (k:Nat) (t:List Int),t.length<=k->(gs1 t).length<=t.length:=by
 intro k
 induction k with
 | zero=>intro t h;cases t with
  | nil=>simp [gs1]
  | cons x l=>simp at h
 | succ k ih=>
  intro t h
  match t,h with
  | [],_=>simp [gs1]
  | [x],_=>simp [gs1]
  | x :: y :: l,h=>
   have h1:=ih l (by simp at h;omega)
   have h2:=ih (y :: l) (by simp at h ⊢;omega)
   simp only [List.length_cons] at h2 ⊢
   unfold gs1
   split
   ·split
    ·simp only [List.length_cons];omega
    ·simp only [List.length_cons];omega
   ·simp only [List.length_cons];omega
theorem gsT_le (m:Int)(t:List Int):(gsT m t).length<=t.length:=by
 unfold gsT
 split
 ·exact gs1_le _ t (Nat.le_refl _)
 ·exact Nat.le_refl _
theorem gsS_len (l:List F.S98)(b:Nat)(h:∀ s∈l,s.f1.length<=b):(gsS l).length<=b*l.length:=by
 induction l with
 | nil=>simp [gsS]
 | cons s l ih=>
  have h1:=ih (fun t ht=>h t (by simp [ht]))
  have h2:=h s (by simp)
  have h3:=gsT_le s.f0 s.f1
  unfold gsS at *
  rw [List.flatMap_cons,List.length_append,List.length_cons,Nat.mul_add,Nat.mul_one]
  omega
theorem gsS_text (l:List F.S98)(h:∀ s∈l,s.f0=1\/s.f0=2\/s.f0=4):sgText true (l.map toSg)=gsS l:=by
 unfold sgText gsS
 rw [List.flatMap_map]
 apply flatMap_alike
 intro s hs
 unfold sgOut gsT
 rcases h s hs with e | e | e<;>simp [toSg,e]
theorem drop_at (t:List Int)(i:Nat)(h:i<t.length):t.drop i=t.getD i 0 :: t.drop (i+1):=by
 rw [List.drop_eq_getElem_cons h,List.getD_eq_getElem?_getD,List.getElem?_eq_getElem h]
 rfl
set_option maxHeartbeats 8000000 in
set_option maxRecDepth 8000 in
theorem gs31 (w:World)(A:Option Addr)(c n:Nat)(l:List F.S98)(hl:Kd.C F.k98 w A n l)(hn:l.length=n)(hb:∀ s∈l,s.f1.length<=10000/\∀ x∈s.f1,0<=x/\x<=255)(hn2:n<=10000) :
  Calls Tryz.prog 31 #[.slice A n c] w fun e w'=>e=.returned (.string (strOfNums (gsS l)))/\Below w.heap.size w w':=by
 have HC:=Aside0.mk hl
 have HN:=Aside0.mk hn
 have HS:=Aside0.mk hb
 have HN2:=Aside0.mk hn2
 obtain⟨R,hR⟩:∃ R,R=strOfNums (gsS l):=⟨_,rfl⟩
 rw [<- hR]
 have HR:=Aside0.mk hR
 clear hl hn hb hn2 hR
 go_enter Tryz.func31,Tryz.ntmps31
 go_wp2_with fail
 go_loopw [3,10] (fun v3 v10 wr=>∃ i:Nat,v10=.int .i64 (i:Int)/\i<=n/\Aside0 (wr.ownsRow w.heap.size 5 1 v3 (gsS (l.take i)).length (nums .u8 (gsS (l.take i))))/\Aside0 (Below w.heap.size w wr)) (fun _ v10 _=>(n-intOf v10).toNat)
 case atStart=>exact⟨0,rfl,Nat.zero_le _,⟨own_nil' _ _⟩,⟨Below.refl _ _⟩⟩
 case round=>
  obtain⟨i,rfl,hi,HO,HB⟩:=hrel
  have hi9:i<=10000:=by have:=HN2.out;omega
  by_cases hin:i<n
  ·obtain⟨ad,A1,c1,e0,r0,r1,l1,g1⟩:=F.at_T98 HC.out (i:Int) (by omega) (by omega)
   rw [Int.toNat_natCast] at r0 r1
   obtain⟨s,hss⟩:∃ s,F.rd_T98 l i=s:=⟨_,rfl⟩
   rw [hss] at r0 r1 l1 g1
   have hgi:l[i]? = some s:=by
    have hlt:i<l.length:=by rw [HN.out];exact hin
    rw [List.getElem?_eq_getElem hlt,<- hss]
    unfold F.rd_T98
    rw [Int.toNat_natCast,List.getD_eq_getElem?_getD,List.getElem?_eq_getElem hlt]
    rfl
   have hso:=HS.out s (List.mem_of_getElem? hgi)
   have htk:l.take (i+1)=l.take i++[s]:=by rw [List.take_add_one,hgi];rfl
   obtain⟨m,hm⟩:∃ m,s.f0=m:=⟨_,rfl⟩
   have HTF:=Aside0.mk (show gsS (l.take (i+1))=gsS (l.take i)++gsT m s.f1 by rw [htk,<- hm];simp [gsS])
   have HFL:=Aside0.mk (show (gsS (l.take i)).length<=100000000 by
    have h1:=gsS_len (l.take i) 10000 (fun t ht=>(HS.out t (List.mem_of_mem_take ht)).1)
    have h2:(l.take i).length<=10000:=by rw [List.length_take];have:=HN2.out;omega
    have h3:=Nat.mul_le_mul_left 10000 h2
    omega)
   obtain⟨fl,hfl⟩:∃ fl,gsS (l.take i)=fl:=⟨_,rfl⟩
   rw [hfl] at HO HTF HFL
   obtain⟨k,hk⟩:∃ k,s.f1.length=k:=⟨_,rfl⟩
   rw [hm] at r0
   rw [hk] at r1 l1 g1
   subst e0
   replace r0:=cell_up HB.out r0
   replace r1:=cell_up HB.out r1
   have HSO:=Aside0.mk hso
   have HK:=Aside0.mk hk
   have HG:=Aside0.mk g1
   have hk2:k<=10000:=by rw [<- hk];exact hso.1
   obtain⟨wo,hwo⟩:∃ wo,wo=wr:=⟨_,rfl⟩
   subst hwo
   have HBA:=Aside0.mk (HB.out.alloc HB.out.size (.cells #[.int .i64 m,.slice A1 k c1] 98))
   have HOA:=Aside0.mk (own_under HO.out (below_alloc (Below.refl wo.heap.size wo) (.cells #[.int .i64 m,.slice A1 k c1] 98)))
   have HBK:=Aside0.mk (Blk.new wo 98 #[.int .i64 m,.slice A1 k c1])
   obtain⟨wa,hwa⟩:∃ wa,wa=wo.alloc (.cells #[.int .i64 m,.slice A1 k c1] 98):=⟨_,rfl⟩
   rw [<- hwa] at HBA HOA HBK
   have HWA:=Aside0.mk hwa
   clear hso hss hgi hm hk hwa g1 hfl htk
   go_wp2_with fail
   rw [<- HWA.out]
   clear r0 r1
   go_loopw [3,6] (fun v3 v6 wq=>∃ (j:Nat) (ys:List Int),v6=.int .i64 (j:Int)/\j<=k/\Aside0 (wq.ownsRow w.heap.size 5 1 v3 ys.length (nums .u8 ys))/\Aside0 (Below w.heap.size w wq)/\Aside0 (Blk wq wo.heap.size 98 #[.int .i64 m,.slice A1 k c1])/\Aside0 (ys++gsT m (s.f1.drop j)=fl++gsT m s.f1)/\Aside0 (ys.length<=100000000+j)) (fun _ v6 _=>(k-intOf v6).toNat)
   case atStart=>exact⟨0,fl,rfl,Nat.zero_le _,HOA,HBA,HBK,⟨rfl⟩,⟨by have:=HFL.out;omega⟩⟩
   case round=>
    clear HO HB HBA HOA HBK HWA
    obtain⟨j,ys,rfl,hj,HO,HB,HBK,HE,HYL⟩:=hrel
    have b0:=HBK.out.cell 0
    have b1:=HBK.out.cell 1
    obtain⟨Ao,co,hvo⟩:=own_slice HO.out
    subst hvo
    by_cases hjk:j<k
    ·obtain⟨ax,ea,ra0⟩:=ints_at HG.out j hjk
     subst ea
     have ra:=cell_up HB.out ra0
     clear ra0
     obtain⟨x,hx⟩:∃ x,s.f1.getD j 0=x:=⟨_,rfl⟩
     rw [hx] at ra
     have hjl:j<s.f1.length:=by rw [HK.out];exact hjk
     have hdr:=drop_at s.f1 j hjl
     rw [hx] at hdr
     have hmem:x∈s.f1:=by rw [<- hx,List.getD_eq_getElem?_getD,List.getElem?_eq_getElem hjl];exact List.getElem_mem _
     obtain⟨hx0,hx1⟩:=HSO.out.2 x hmem
     have HDR:=Aside0.mk hdr
     have HLL:=Aside0.mk (show ys.length<=100020000 by have:=HYL.out;omega)
     clear hx hmem hjl hdr
     by_cases hm2:m=2
     ·subst hm2
      by_cases hx37:x=37
      ·subst hx37
       by_cases hjk2:j+1<k
       ·obtain⟨ay,ey,ry0⟩:=ints_at HG.out (j+1) hjk2
        injection ey with ey
        subst ey
        have ry:=cell_up HB.out ry0
        clear ry0
        rw [show ax.add (j+1)=⟨ax.block,ax.off+(j+1),none⟩ by unfold Addr.add;rw [if_neg (by omega)]] at ry
        obtain⟨y,hy⟩:∃ y,s.f1.getD (j+1) 0=y:=⟨_,rfl⟩
        rw [hy] at ry
        have hdr2:=drop_at s.f1 (j+1) (by rw [HK.out];exact hjk2)
        rw [hy] at hdr2
        have HDR2:=Aside0.mk hdr2
        clear hy hdr2
        by_cases hy37:y=37
        ·subst hy37
         have HX:=Aside0.mk (show [(37:Int)]++gsT 2 (s.f1.drop (j+2))=gsT 2 (s.f1.drop j) by unfold gsT;rw [if_pos rfl,HDR.out,HDR2.out,gs1_twoB];rfl)
         go_wp2_with (first | ((with_reducible refine gate_builtin (b:=.append) (xs:=#[.tmp 50,.tmp 52]) rfl ?_);at_builtin;refine print_append_num (w0:=w) w.heap.size rfl (.tmp 50) (.tmp 52) 26 5 .u8 1 rfl Tryz.underlying26 F.info5 (by decide) (.slice Ao ys.length co) ys (37) rfl rfl HO.out HB.out HB.out.size ?aL ?_;(case aL=>(have:=HLL.out;omega));intro v6 w6 ho6 hb6 hg6 hat6;have HO6:=Aside0.mk ho6;have HB6:=Aside0.mk hb6;have HK6:=Aside0.mk (show Blk w6 wo.heap.size 98 #[.int .i64 2,.slice (some ax) k c1] from (hg6.block _ HBK.out.lt (own_ne HO.out HBK.out (by decide))).trans HBK.out);clear ho6 hb6 hg6 hat6))
         clear b0 b1 ra
         go_roundw
         case rel=>exact⟨j+2,ys++[37],by go_num,by omega,HO6,HB6,HK6,⟨by rw [<- HE.out,List.append_assoc];congr 1;exact HX.out⟩,⟨by have:=HYL.out;rw [List.length_append,List.length_singleton];omega⟩⟩
         case measure=>simp [intOf]<;>omega
        ·have hyb:(y==37)=false:=beq_eq_false_iff_ne.2 hy37
         have HX:=Aside0.mk (show [(29:Int)]++gsT 2 (s.f1.drop (j+1))=gsT 2 (s.f1.drop j) by unfold gsT;rw [if_pos rfl,HDR.out,HDR2.out,gs1_sepB _ _ hy37];rfl)
         clear hy37
         go_wp2_with (first | ((with_reducible refine gate_builtin (b:=.append) (xs:=#[.tmp 50,.tmp 52]) rfl ?_);at_builtin;refine print_append_num (w0:=w) w.heap.size rfl (.tmp 50) (.tmp 52) 26 5 .u8 1 rfl Tryz.underlying26 F.info5 (by decide) (.slice Ao ys.length co) ys (29) rfl rfl HO.out HB.out HB.out.size ?aL ?_;(case aL=>(have:=HLL.out;omega));intro v6 w6 ho6 hb6 hg6 hat6;have HO6:=Aside0.mk ho6;have HB6:=Aside0.mk hb6;have HK6:=Aside0.mk (show Blk w6 wo.heap.size 98 #[.int .i64 2,.slice (some ax) k c1] from (hg6.block _ HBK.out.lt (own_ne HO.out HBK.out (by decide))).trans HBK.out);clear ho6 hb6 hg6 hat6))
         clear b0 b1 ra
         go_roundw
         case rel=>exact⟨j+1,ys++[29],by go_num,by omega,HO6,HB6,HK6,⟨by rw [<- HE.out,List.append_assoc];congr 1;exact HX.out⟩,⟨by have:=HYL.out;rw [List.length_append,List.length_singleton];omega⟩⟩
         case measure=>simp [intOf]<;>omega
       ·have HX:=Aside0.mk (show [(29:Int)]++gsT 2 (s.f1.drop (j+1))=gsT 2 (s.f1.drop j) by unfold gsT;rw [if_pos rfl,if_pos rfl,HDR.out,List.drop_eq_nil_of_le (show s.f1.length<=j+1 by rw [HK.out];omega),gs1_end];rfl)
        go_wp2_with (first | ((with_reducible refine gate_builtin (b:=.append) (xs:=#[.tmp 50,.tmp 52]) rfl ?_);at_builtin;refine print_append_num (w0:=w) w.heap.size rfl (.tmp 50) (.tmp 52) 26 5 .u8 1 rfl Tryz.underlying26 F.info5 (by decide) (.slice Ao ys.length co) ys (29) rfl rfl HO.out HB.out HB.out.size ?aL ?_;(case aL=>(have:=HLL.out;omega));intro v6 w6 ho6 hb6 hg6 hat6;have HO6:=Aside0.mk ho6;have HB6:=Aside0.mk hb6;have HK6:=Aside0.mk (show Blk w6 wo.heap.size 98 #[.int .i64 2,.slice (some ax) k c1] from (hg6.block _ HBK.out.lt (own_ne HO.out HBK.out (by decide))).trans HBK.out);clear ho6 hb6 hg6 hat6))
        clear b0 b1 ra
        go_roundw
        case rel=>exact⟨j+1,ys++[29],by go_num,by omega,HO6,HB6,HK6,⟨by rw [<- HE.out,List.append_assoc];congr 1;exact HX.out⟩,⟨by have:=HYL.out;rw [List.length_append,List.length_singleton];omega⟩⟩
        case measure=>simp [intOf]<;>omega
      ·have hxb:(x==37)=false:=beq_eq_false_iff_ne.2 hx37
       have HX:=Aside0.mk (show [x]++gsT 2 (s.f1.drop (j+1))=gsT 2 (s.f1.drop j) by unfold gsT;rw [if_pos rfl,if_pos rfl,HDR.out,gs1_ne _ _ hx37];rfl)
       clear hx37
       go_wp2_with (first | ((with_reducible refine gate_builtin (b:=.append) (xs:=#[.tmp 50,.tmp 52]) rfl ?_);at_builtin;refine print_append_num (w0:=w) w.heap.size rfl (.tmp 50) (.tmp 52) 26 5 .u8 1 rfl Tryz.underlying26 F.info5 (by decide) (.slice Ao ys.length co) ys (x) rfl rfl HO.out HB.out HB.out.size ?aL ?_;(case aL=>(have:=HLL.out;omega));intro v6 w6 ho6 hb6 hg6 hat6;have HO6:=Aside0.mk ho6;have HB6:=Aside0.mk hb6;have HK6:=Aside0.mk (show Blk w6 wo.heap.size 98 #[.int .i64 2,.slice (some ax) k c1] from (hg6.block _ HBK.out.lt (own_ne HO.out HBK.out (by decide))).trans HBK.out);clear ho6 hb6 hg6 hat6))
       clear b0 b1 ra
       go_roundw
       case rel=>exact⟨j+1,ys++[x],by go_num,by omega,HO6,HB6,HK6,⟨by rw [<- HE.out,List.append_assoc];congr 1;exact HX.out⟩,⟨by have:=HYL.out;rw [List.length_append,List.length_singleton];omega⟩⟩
       case measure=>simp [intOf]<;>omega
     ·have hmb:(m==2)=false:=beq_eq_false_iff_ne.2 hm2
      have HX:=Aside0.mk (show [x]++gsT m (s.f1.drop (j+1))=gsT m (s.f1.drop j) by unfold gsT;rw [if_neg hm2,if_neg hm2,HDR.out];rfl)
      clear hm2
      go_wp2_with (first | ((with_reducible refine gate_builtin (b:=.append) (xs:=#[.tmp 50,.tmp 52]) rfl ?_);at_builtin;refine print_append_num (w0:=w) w.heap.size rfl (.tmp 50) (.tmp 52) 26 5 .u8 1 rfl Tryz.underlying26 F.info5 (by decide) (.slice Ao ys.length co) ys (x) rfl rfl HO.out HB.out HB.out.size ?aL ?_;(case aL=>(have:=HLL.out;omega));intro v6 w6 ho6 hb6 hg6 hat6;have HO6:=Aside0.mk ho6;have HB6:=Aside0.mk hb6;have HK6:=Aside0.mk (show Blk w6 wo.heap.size 98 #[.int .i64 m,.slice (some ax) k c1] from (hg6.block _ HBK.out.lt (own_ne HO.out HBK.out (by decide))).trans HBK.out);clear ho6 hb6 hg6 hat6))
      clear b0 b1 ra
      go_roundw
      case rel=>exact⟨j+1,ys++[x],by go_num,by omega,HO6,HB6,HK6,⟨by rw [<- HE.out,List.append_assoc];congr 1;exact HX.out⟩,⟨by have:=HYL.out;rw [List.length_append,List.length_singleton];omega⟩⟩
      case measure=>simp [intOf]<;>omega
    ·have hjk3:j=k:=by omega
     subst hjk3
     have hE:=HE.out
     rw [List.drop_eq_nil_of_le (show s.f1.length<=j by rw [HK.out];exact Nat.le_refl _),show gsT m []=[] by unfold gsT;split<;>simp [gs1],List.append_nil] at hE
     have hO2:=HO.out
     rw [hE] at hO2
     have hyl:ys.length=(fl++gsT m s.f1).length:=by rw [hE]
     have HO3:=Aside0.mk hO2
     have HYE:=Aside0.mk hyl
     clear hE hO2 hyl
     go_wp2_with fail
     clear b0 b1
     go_roundw
     case rel=>exact⟨i+1,by go_num,by omega,⟨by rw [HTF.out,HYE.out];exact HO3.out⟩,HB⟩
     case measure=>simp [intOf]<;>omega
  ·have:i=n:=by omega
   subst this
   have hall:l.take l.length=l:=List.take_length
   have hO2:=HO.out
   rw [<- HN.out,hall] at hO2
   have HCV:=Aside0.mk (own_string (P:=Tryz.prog) (e':=5) Tryz.underlying26 Tryz.underlying5 Tryz.underlying9 hO2)
   have hcv:=HCV.out
   rw [<- HR.out] at hcv
   clear hO2 hall
   go_wp2_with fail
   go_ret
   exact⟨rfl,HB.out⟩
end Go.Proofs.YtgccjgpdjkhpdaaGreat.B
