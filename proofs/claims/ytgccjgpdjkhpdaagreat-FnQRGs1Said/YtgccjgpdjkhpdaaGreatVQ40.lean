import Derived.Test.YtgccjgpdjkhpdaaGreatVQ36
import Derived.Test.YtgccjgpdjkhpdaaGreatVQ42
/-! Own texts of this claim, part 40. -/
namespace Go.Proofs.YtgccjgpdjkhpdaaGreat.B
open Go.RowKit Go.Proofs.YtgccjgpdjkhpdaaGreatW.PrintWords Go.Proofs.YtgccjgpdjkhpdaaGreatW.PrintLast Go.Proofs.YtgccjgpdjkhpdaaGreatW.PrintMore
set_option linter.unusedVariables false
set_option linter.unusedSimpArgs false
theorem pack_len (bits:List Bool):(pack bits).length=bits.length/8:=by simp [pack]
theorem bits8_val:∀ l:List Bool,l.length=8->byteBits (bval l)=l:=by
 intro l h
 have h1:bval l<2 ^ 8:=by have:=bval_lt l;rwa [h] at this
 have key:∀ a b c d e f g i:Bool,byteBits (bval [a,b,c,d,e,f,g,i])=[a,b,c,d,e,f,g,i]:=by decide
 match l,h with
 | [a,b,c,d,e,f,g,i],_=>exact key a b c d e f g i
theorem stream_append (a b:List Nat):streamBits (a++b)=streamBits a++streamBits b:=by simp [streamBits]
theorem stream_pack_to (bits:List Bool):∀ k,8*k<=bits.length->streamBits ((List.range k).map fun j=>bval (seg bits (8*j) 8))=bits.take (8*k):=by
 intro k
 induction k with
 | zero=>intro _;simp [streamBits]
 | succ k ih=>
  intro h
  rw [List.range_succ,List.map_append,stream_append,ih (by omega)]
  have e:streamBits ([k].map fun j=>bval (seg bits (8*j) 8))=seg bits (8*k) 8:=by
   simp only [List.map_cons,List.map_nil,streamBits,List.flatMap_cons,List.flatMap_nil,List.append_nil]
   exact bits8_val _ (seg_len bits (8*k) 8 (by omega))
  rw [e]
  unfold seg
  rw [show 8*(k+1)=8*k+8 by omega,List.take_add]
theorem stream_pack (bits:List Bool)(h:bits.length%8=0):streamBits (pack bits)=bits:=by
 unfold pack
 rw [stream_pack_to bits _ (by omega),List.take_of_length_le (by omega)]
theorem own_of_blk2 {w:World}{q base:Nat}{xs:List Int}(h:Blk w q 5 (nums .u8 xs).toArray)(hb:base<=q)(hl:xs.length<=1000000):w.ownsRow base 5 1 (.slice (some ⟨q,0,none⟩) xs.length xs.length) xs.length (nums .u8 xs) :=
 ⟨by simp [nums],.inr ⟨q,xs.length,(nums .u8 xs).toArray,rfl,hb,h,Nat.le_refl _,by simp [maxLen];omega,by simp [nums],by rw [Nat.mul_one];exact List.take_of_length_le (by simp [nums])⟩⟩
theorem own_ublk {w:World}{g base:Nat}{xs:List Nat}(h:UBlk w g xs)(hb:base<=g)(hl:xs.length<=1000000):w.ownsRow base 5 1 (.slice (some ⟨g,0,none⟩) xs.length xs.length) xs.length (nums .u8 (ints xs)):=by
 have:=own_of_blk2 (w:=w) (q:=g) (base:=base) (xs:=ints xs) h hb (by rw [ints_len];exact hl)
 rwa [ints_len] at this
theorem BOwn.shape {w:World}{base:Nat}{v:Value}{xs:List Bool}(h:BOwn w base v xs):∃ A c,v=.slice A xs.length c:=own_slice h
def gsBits (bits:List Bool)(room:Nat):List Bool:=(natBits 5 4++bits)++List.replicate (8*room-(natBits 5 4++bits).length) false
def gsWords (bits:List Bool)(room:Nat):List Nat:=pack (gsBits bits room)
theorem gsBits_len (bits:List Bool)(room:Nat)(h:bits.length+8<=8*room):(gsBits bits room).length=8*room:=by
 unfold gsBits
 rw [List.length_append,List.length_append,natBits_len,List.length_replicate]
 omega
theorem gsWords_len (bits:List Bool)(room:Nat)(h:bits.length+8<=8*room):(gsWords bits room).length=room:=by
 unfold gsWords
 rw [pack_len,gsBits_len bits room h]
 omega
theorem zeros_nat:∀ n,List.replicate n false=natBits 0 n:=by
 intro n
 unfold natBits
 apply List.ext_getElem
 ·simp
 ·intro i h1 h2
  simp
theorem gsWords_says (bits:List Bool)(room:Nat)(h:bits.length+8<=8*room):∃ q,streamBits (gsWords bits room)=natBits 5 4++(bits++(natBits 0 4++q)):=by
 have hl:=gsBits_len bits room h
 unfold gsWords
 rw [stream_pack _ (by rw [hl];omega)]
 refine⟨List.replicate (8*room-(natBits 5 4++bits).length-4) false,?_⟩
 unfold gsBits
 rw [<- zeros_nat 4,List.replicate_append_replicate,List.append_assoc]
 congr 3
 rw [List.length_append,natBits_len]
 omega
theorem rd_gs (v room:Nat)(segs:List Sg)(hs:∀ s∈segs,s.Ok v)(hfit:(sgStream segs v).length+8<=8*room) :
  ∃ p,Rd (gsWords (sgStream segs v) room) v ⟨0,[],[],false,-1,-1⟩ (some ⟨p,sgText true segs,sgSegs segs,true,-1,-1⟩):=by
 obtain⟨q,h1⟩:=gsWords_says (sgStream segs v) room hfit
 have hlen:=gsWords_len (sgStream segs v) room hfit
 obtain⟨p,hp⟩:=rd_segs (gsWords (sgStream segs v) room) v (natBits 0 4++q) (.inr ⟨q,rfl⟩) segs (natBits 5 4) ⟨4,[],[],true,-1,-1⟩ hs h1 (by rw [natBits_len])
 refine⟨p,Rd.fnc _ _ ?_ ?_ (by simpa using hp)⟩
 ·show 0+4<=_
  omega
 ·exact rd_at (gsWords (sgStream segs v) room) [] _ 5 4 h1 (by decide)
theorem GrowR.keep {w w':World}{v v':Value}(h:GrowR w w' v v'){k:Nat}(hk:k<w.heap.size)(hn:some k≠v.ownBlock):w'.heap[k]? = w.heap[k]?:=h.by_.block k hk hn
set_option maxHeartbeats 4000000 in
set_option maxRecDepth 8000 in
theorem words30 (w:World)(A:Option Addr)(c n v l:Nat)(segs:List F.S98)(hS:Kd.C F.k98 w A n segs)(hn:segs.length=n)(hv:1<=v/\v<=40)(hl:l<4)(hs:∀ s∈segs,SegOK s v)(hn2:n<=200)
  (hfit:(sgStream (segs.map toSg) v).length+8<=8*roomD v l) :
  Calls Tryz.prog 30 #[.slice A n c,.int .i64 (v:Int),.int .i64 (l:Int)] w fun e w'=>∃ v',e=.returned (.tuple #[v',.bool true])/\w'.ownsRow w.heap.size 5 1 v' (roomD v l) (nums .u8 (ints (gsWords (sgStream (segs.map toSg) v) (roomD v l))))/\Below w.heap.size w w':=by
 have k1:=stream67 w A c n v segs hS hn hv hs hn2
 have K22:=Aside0.mk (fun W=>words22 W v l hv hl)
 obtain⟨bits,hbits⟩:∃ bits,sgStream (segs.map toSg) v=bits:=⟨_,rfl⟩
 have hroom:=roomD_pos v l hv hl
 obtain⟨room,hr⟩:∃ room,roomD v l=room:=⟨_,rfl⟩
 rw [hbits] at k1 hfit ⊢
 rw [hr] at K22 hfit hroom ⊢
 have HGL:=Aside0.mk (gsBits_len bits room hfit)
 have HWL:=Aside0.mk (gsWords_len bits room hfit)
 obtain⟨m,hm⟩:∃ m,bits.length=m:=⟨_,rfl⟩
 rw [hm] at hfit
 have HM:=Aside0.mk hm
 obtain⟨hr0,hr5⟩:=hroom
 obtain⟨L,hL⟩:∃ L,4+m=L:=⟨_,rfl⟩
 have HL:=Aside0.mk hL
 have hL2:L+4<=8*room:=by omega
 clear hS hn hs hbits hr hv hl hm hL
 go_enter Tryz.func30,Tryz.ntmps30
 go_wp2_with fail
 refine k1.mono ?_
 rintro e w1 ⟨v1,rfl,hO1,hB1⟩
 obtain⟨A1,c1,hv1⟩:=hO1.shape
 rw [HM.out] at hv1
 subst hv1
 have HO1:=Aside0.mk hO1
 have HB1:=Aside0.mk hB1
 clear hO1 hB1 k1
 go_wp2_with fail
 refine (K22.out w1).mono ?_
 rintro e w2 ⟨rfl,hB2⟩
 have HO2:=Aside0.mk (HO1.out.under hB2)
 have HB2:=Aside0.mk (HB1.out.trans (hB2.mono HB1.out.size))
 clear hB2
 go_wp2_with fail
 have k3:=qrAddI w w2 w.heap.size 5 4 (.slice none 0 0) [] 5 4 rfl rfl ⟨rfl,.inl ⟨rfl,rfl⟩⟩ HB2.out HB2.out.size (by decide) (by decide) (by simp)
 refine k3.mono ?_
 rintro e w3 ⟨v3,rfl,hO3,hB3,hG3⟩
 have HO3:=Aside0.mk hO3
 have HB3:=Aside0.mk hB3
 have HB13:=Aside0.mk (show BOwn w3 w.heap.size (.slice A1 m c1) bits from own_move HO2.out fun k hk=>by
  obtain⟨cs,hc⟩:=own_blk HO2.out k hk
  exact GrowR.keep hG3 hc.lt (by simp [Value.ownBlock]))
 clear hO3 hB3 hG3 k3
 obtain⟨A1',c1',hv1',hc1',hC1⟩:=HB13.out.reads (by rw [HM.out];omega)
 rw [HM.out] at hv1' hc1' hC1
 injection hv1' with e1 e2 e3
 subst e1 e3
 clear e2 hc1'
 have HC1:=Aside0.mk (show ReadsOf Value.bool false w3 A1 m bits from Kd.reads_of_C hC1)
 clear hC1
 obtain⟨A3,c3,hv3⟩:=HO3.out.shape
 rw [List.nil_append,natBits_len] at hv3
 subst hv3
 go_wp2_with (first | ((with_reducible refine gate_builtin (b:=.append) (xs:=#[.tmp 30,.tmp 31]) rfl ?_);at_builtin;refine print_append_row_of (w0:=w) Value.bool false w.heap.size rfl (.tmp 30) (.tmp 31) 45 4 (.bool false) 1 rfl Tryz.underlying45 info4b rfl (by decide) (fun _=>rfl) (.slice A3 4 c3) (natBits 5 4) bits A1 m c1 rfl rfl ?aO HC1.out HB3.out HB3.out.size ?aL ?_;(case aO=>exact HO3.out);(case aL=>(rw [natBits_len];omega));intro v4 w4 ho4 hb4 hg4 hat4;have HO4:=Aside0.mk (show BOwn w4 w.heap.size v4 (natBits 5 4++bits) from ho4);have HB4:=Aside0.mk hb4;obtain⟨A4,c4,hv4⟩:=own_slice ho4;rw [List.length_append,natBits_len,HM.out,HL.out] at hv4;subst hv4;clear ho4 hb4 hg4 hat4) | ((with_reducible refine gate_builtin (b:=.append) (xs:=#[.tmp 33,.tmp 37]) rfl ?_);at_builtin;refine Kd.R_append_zeros Kd.bool (w0:=w) w.heap.size rfl (.tmp 33) (.tmp 37) 45 3 4 (.bool false) 1 rfl Tryz.underlying45 Tryz.underlying3 info4b rfl (by decide) (by decide) (.slice A4 L c4) (natBits 5 4++bits) false (8*(room:Int)-(L:Int)) (fun _=>True) rfl rfl rfl (fun _ _=>trivial) ?zO (by omega) HB4.out HB4.out.size ?zL ?_;(case zO=>exact (by have h:=HO4.out;rw [BOwn,List.length_append,natBits_len,HM.out,HL.out] at h;exact Kd.R_of_own (by rw [List.length_append,natBits_len,HM.out,HL.out];exact h) (fun _ _=>trivial)));(case zL=>(rw [List.length_append,natBits_len];have:=HM.out;omega));intro v5 w5 hr5 hb5 hg5 hat5;have HR5:=Aside0.mk hr5;have HB5:=Aside0.mk hb5;clear hr5 hb5 hg5 hat5))
 have hR5:=HR5.out
 rw [show ((natBits 5 4++bits)++List.replicate (8*(room:Int)-(L:Int)).toNat false)=gsBits bits room by
  unfold gsBits
  rw [List.length_append,natBits_len,HM.out,HL.out,show (8*(room:Int)-(L:Int)).toNat=8*room-L by omega]] at hR5
 obtain⟨A5,c5,hv5,hc5,hC5⟩:=Kd.R_reads hR5
 rw [HGL.out] at hv5 hc5 hC5
 subst hv5
 have k6:=bytes68 w5 A5 c5 (8*room) (gsBits bits room) HGL.out hC5 (by omega)
 rw [show 8*room/8=room by omega] at k6
 have hHB5:=HB5.out
 clear hR5 hC5 HR5
 go_wp2_with fail
 refine k6.mono ?_
 rintro e w6 ⟨rfl,hU6,hB6⟩
 have HU6:=Aside0.mk hU6
 have HB6:=Aside0.mk (HB5.out.trans (hB6.mono HB5.out.size))
 clear hU6 hB6 k6 hHB5
 go_wp2_with fail
 go_ret2
 refine⟨_,rfl,?_,HB6.out⟩
 have hp:pack (gsBits bits room)=gsWords bits room:=rfl
 have h:=own_ublk (base:=w.heap.size) HU6.out HB5.out.size (by rw [hp,HWL.out];omega)
 rw [hp,HWL.out] at h
 exact h
theorem numData_le:∀ t:List Int,(numData t).length<=10*t.length:=by
 intro t
 induction t using numData.induct with
 | case1 a b c l ih=>rw [numData,List.length_append,natBits_len];simp only [List.length_cons];omega
 | case2 a b=>rw [numData,natBits_len];simp
 | case3 a=>rw [numData,natBits_len];simp
 | case4=>simp [numData]
theorem alData_le:∀ t:List Int,(alData t).length<=11*t.length:=by
 intro t
 induction t using alData.induct with
 | case1 a b l ih=>rw [alData,List.length_append,natBits_len];simp only [List.length_cons];omega
 | case2 a=>rw [alData,natBits_len];simp
 | case3=>simp [alData]
theorem sgStream_le (v K:Nat):∀ l:List Sg,(∀ s∈l,s.text.length<=K)->(sgStream l v).length<=l.length*(20+11*K):=by
 intro l
 induction l with
 | nil=>intro _;simp [sgStream]
 | cons s l ih=>
  intro h
  have h1:=ih fun x hx=>h x (List.mem_cons_of_mem _ hx)
  have h2:=h s (List.mem_cons_self ..)
  have e:sgStream (s :: l) v=sgBits s v++sgStream l v:=by simp [sgStream]
  have h3:(sgBits s v).length<=20+11*K:=by
   unfold sgBits
   rw [List.length_append,List.length_append,natBits_len,natBits_len]
   have h4:(sgData s).length<=11*s.text.length:=by
    unfold sgData
    split
    ·have:=numData_le s.text;omega
    ·split
     ·exact alData_le s.text
     ·rw [byData_len];omega
   have h5:cntBits s.mode v<=16:=by
    unfold cntBits
    repeat' split
    all_goals decide
   omega
  rw [e,List.length_append,List.length_cons,Nat.succ_mul]
  omega
set_option maxHeartbeats 4000000 in
set_option maxRecDepth 8000 in
theorem words30_no (w:World)(A:Option Addr)(c n v l:Nat)(segs:List F.S98)(hS:Kd.C F.k98 w A n segs)(hn:segs.length=n)(hv:1<=v/\v<=40)(hl:l<4)(hs:∀ s∈segs,SegOK s v)(hn2:n<=200)
  (hfit:¬ (sgStream (segs.map toSg) v).length+8<=8*roomD v l) :
  Calls Tryz.prog 30 #[.slice A n c,.int .i64 (v:Int),.int .i64 (l:Int)] w fun e w'=>e=.returned (.tuple #[.slice none 0 0,.bool false])/\Below w.heap.size w w':=by
 have k1:=stream67 w A c n v segs hS hn hv hs hn2
 have K22:=Aside0.mk (fun W=>words22 W v l hv hl)
 have hle:=sgStream_le v 10000 (segs.map toSg) (fun s hs2=>by obtain⟨s0,hs0,rfl⟩:=List.mem_map.1 hs2;have:=(hs s0 hs0).short;show s0.f1.length<=10000;omega)
 rw [List.length_map,hn] at hle
 obtain⟨bits,hbits⟩:∃ bits,sgStream (segs.map toSg) v=bits:=⟨_,rfl⟩
 have hroom:=(roomD_pos v l hv hl).2
 obtain⟨room,hr⟩:∃ room,roomD v l=room:=⟨_,rfl⟩
 rw [hbits] at k1 hfit hle
 rw [hr] at K22 hfit hroom
 obtain⟨m,hm⟩:∃ m,bits.length=m:=⟨_,rfl⟩
 rw [hm] at hfit hle
 have hfit2:8*room<m+8:=by omega
 have hm2:m<=100000000:=Nat.le_trans hle (Nat.le_trans (Nat.mul_le_mul_right _ hn2) (by decide))
 have HM:=Aside0.mk hm
 clear hS hn hs hbits hr hv hl hm hfit hle
 go_enter Tryz.func30,Tryz.ntmps30
 go_wp2_with fail
 refine k1.mono ?_
 rintro e w1 ⟨v1,rfl,hO1,hB1⟩
 obtain⟨A1,c1,hv1⟩:=hO1.shape
 rw [HM.out] at hv1
 subst hv1
 have HB1:=Aside0.mk hB1
 clear hO1 hB1 k1
 go_wp2_with fail
 refine (K22.out w1).mono ?_
 rintro e w2 ⟨rfl,hB2⟩
 have HB2:=Aside0.mk (HB1.out.trans (hB2.mono HB1.out.size))
 clear hB2
 go_wp2_with fail
 go_ret2
 exact⟨rfl,HB2.out⟩
end Go.Proofs.YtgccjgpdjkhpdaaGreat.B
