import Derived.Test.YtgccjgpdjkhpdaaGreatVErrors4
open Go.Proofs.YtgccjgpdjkhpdaaGreatW.PrintWords.Aside0 renaming mk→Mw
/-! Own texts of this claim, part 9. -/
namespace Go.Proofs.YtgccjgpdjkhpdaaGreat.B
open Go.RowKit Go.Proofs.YtgccjgpdjkhpdaaGreatW.PrintWords Go.Proofs.YtgccjgpdjkhpdaaGreatW.PrintLast Go.Proofs.YtgccjgpdjkhpdaaGreatW.PrintMore
set_option linter.unusedVariables false
set_option linter.unusedSimpArgs false
theorem ku (w:World)(q gf:Nat)(xs:List Nat)(h:aB w q gf xs)(hl:xs.length<=100000):Calls Tryz.prog 187 #[.pointer (some ⟨q,0,none⟩)] w fun e w'=>e=.returned (.int .i64 ((xs.length-1:Nat):Int))/\w'=w:=by
 obtain⟨g,o,c,h1,h2,h3,h4⟩:=h;have c1:=h1.cell 1;obtain⟨n,hn⟩:∃ n,xs.length=n:=⟨_,rfl⟩;have hp:1<=n:=by rw [<- hn];cases xs with | nil=>exact absurd rfl h4 | cons _ _=>simp
 rw [hn] at c1 hl ⊢;have e:((n-1:Nat):Int)=(n:Int)-1:=by omega
 rw [e];clear h1 h2 h3 h4 hn e
 go_enter Tryz.func187,Tryz.ntmps187
 go_wp2
 go_ret
 exact⟨rfl,rfl⟩
theorem og (w:World)(q gf:Nat)(xs:List Nat)(h:aB w q gf xs)(hl:xs.length<=100000):Calls Tryz.prog 190 #[.pointer (some ⟨q,0,none⟩)] w fun e w'=>e=.returned (.bool (decide (xs.getD 0 0=0)))/\w'=w:=by
 obtain⟨g,o,c,h1,h2,h3,h4⟩:=h;have c1:=h1.cell 1;have hp:0<xs.length:=by cases xs with | nil=>exact absurd rfl h4 | cons _ _=>simp
 have k0:=h3.at_ 0 hp;obtain⟨n,hn⟩:∃ n,xs.length=n:=⟨_,rfl⟩;rw [hn] at c1 hp;obtain⟨x,hx⟩:∃ x,xs.getD 0 0=x:=⟨_,rfl⟩;rw [hx] at k0 ⊢;rw [Nat.add_zero] at k0;have e:decide (x=0)=((x:Int)==0):=by
  by_cases h:x=0
  ·subst h;rfl
  rw [decide_eq_false h];symm;simp;omega
 rw [e];clear h1 h2 h3 h4 hn hx e
 go_enter Tryz.func190,Tryz.ntmps190
 go_wp2
 go_ret
 exact⟨rfl,rfl⟩
theorem pI (w:World)(gf m p b:Nat)(h:bF w gf m p b):Calls Tryz.prog 188 #[.pointer (some ⟨gf,0,none⟩)] w fun e w'=>∃ z,e=.returned (.pointer (some ⟨z,0,none⟩))/\aB w z gf [0]/\w'=w:=by
 obtain⟨ge,gl,zp,op,ls,h1,_,_,_,h5,_⟩:=h;have c2:=h1.cell 2;have H5:=Mw h5;clear h1 h5
 go_enter Tryz.func188,Tryz.ntmps188
 go_wp2
 go_ret
 exact⟨zp,rfl,H5.out,rfl⟩
theorem Mc (w:World)(gf m p b:Nat)(h:bF w gf m p b):Calls Tryz.prog 189 #[.pointer (some ⟨gf,0,none⟩)] w fun e w'=>∃ z,e=.returned (.pointer (some ⟨z,0,none⟩))/\aB w z gf [1]/\w'=w:=by
 obtain⟨ge,gl,zp,op,ls,h1,_,_,_,_,h6⟩:=h;have c3:=h1.cell 3;have H6:=Mw h6;clear h1 h6
 go_enter Tryz.func189,Tryz.ntmps189
 go_wp2
 go_ret
 exact⟨op,rfl,H6.out,rfl⟩
theorem Md (w:World)(gf m p b:Nat)(h:bF w gf m p b):Calls Tryz.prog 196 #[.pointer (some ⟨gf,0,none⟩)] w fun e w'=>e=.returned (.int .i64 ((2 ^ m:Nat):Int))/\w'=w:=by
 obtain⟨ge,gl,zp,op,ls,h1,_⟩:=h;have c4:=h1.cell 4;obtain⟨N,hN⟩:∃ N,2 ^ m=N:=⟨_,rfl⟩;rw [hN] at c4 ⊢;clear h1 hN
 go_enter Tryz.func196,Tryz.ntmps196
 go_wp2
 go_ret
 exact⟨rfl,rfl⟩
def ef (m p a:Nat):Nat:=((List.range (2 ^ m-1)).find? fun i=>gx m p i==a).getD 0
theorem uS {m p:Nat}(F:aG m p)(hP:eA m p)(i:Nat)(hi:i<2 ^ m-1):ef m p (gx m p i)=i:=by
 unfold ef;cases hf:(List.range (2 ^ m-1)).find? fun j=>gx m p j==gx m p i with
 | none=>
  have:=List.find?_eq_none.1 hf i (List.mem_range.2 hi);simp at this
 | some j=>
  have h1:=List.find?_some hf;have h2:=List.mem_of_find?_eq_some hf;simp only [beq_iff_eq] at h1;exact sm F hP j i (List.mem_range.1 h2) hi h1
theorem pJ {m p:Nat}(F:aG m p)(hP:eA m p)(a:Nat)(h0:a≠0)(ha:a<2 ^ m):ef m p a<2 ^ m-1/\gx m p (ef m p a)=a:=by
 obtain⟨i,hi,rfl⟩:=oe F hP a h0 ha;rw [uS F hP i hi];exact⟨hi,rfl⟩
def br (m p a:Nat):Nat:=gx m p (2 ^ m-1-ef m p a)
theorem g6 {m p:Nat}(F:aG m p)(a:Nat):br m p a<2 ^ m:=dm F _
theorem so {m p:Nat}(F:aG m p)(hP:eA m p)(a:Nat)(h0:a≠0)(ha:a<2 ^ m):gm m p a (br m p a)=1:=by
 obtain⟨h1,h2⟩:=pJ F hP a h0 ha;unfold br
 conv=>lhs;arg 3;rw [<- h2]
 rw [lz F,show ef m p a+(2 ^ m-1-ef m p a)=2 ^ m-1 by omega];exact hP.whole
theorem Me (w:World)(gf m p b a:Nat)(F:aG m p)(hP:eA m p)(hm:m<=12)(h:bF w gf m p b)(ha:a<2 ^ m)(h0:a≠0) :
  Calls Tryz.prog 182 #[.pointer (some ⟨gf,0,none⟩),.int .i64 (a:Int)] w fun e w'=>e=.returned (.tuple #[.int .i64 ((ef m p a:Nat):Int),.nilIface])/\w'=w:=by
 obtain⟨g1,g2⟩:=pJ F hP a h0 ha;obtain⟨ge,gl,zp,op,ls,h1,_,h3,h4,_⟩:=h;have c1:=h1.cell 1;have l1:=h3.cell a (by rw [h4.len];exact ha)
 obtain⟨i,hi⟩:∃ i,ef m p a=i:=⟨_,rfl⟩;rw [hi] at g1 g2 ⊢;rw [<- g2,h4.log i g1,g2] at l1;obtain⟨N,hN⟩:∃ N,2 ^ m=N:=⟨_,rfl⟩;rw [hN] at c1 ha;have hN4:N<=4096:=by rw [<- hN];exact Nat.le_trans (Nat.pow_le_pow_right (by omega) hm) (by decide)
 have hb:((a:Int)==0)=false:=by simp;omega
 clear h1 h3 h4 g1 g2 hN hi F hP
 go_enter Tryz.func182,Tryz.ntmps182
 go_wp2
 go_ret2
 exact⟨rfl,rfl⟩
theorem pK (w:World)(gf m p b a:Nat)(F:aG m p)(hP:eA m p)(hm:m<=12)(h:bF w gf m p b)(ha:a<2 ^ m)(h0:a≠0) :
  Calls Tryz.prog 191 #[.pointer (some ⟨gf,0,none⟩),.int .i64 (a:Int)] w fun e w'=>e=.returned (.tuple #[.int .i64 ((br m p a:Nat):Int),.nilIface])/\Drawn w w':=by
 obtain⟨g1,g2⟩:=pJ F hP a h0 ha;obtain⟨ge,gl,zp,op,ls,h1,h2,h3,h4,_⟩:=h;have c0:=h1.cell 0;have c1:=h1.cell 1;have c4:=h1.cell 4;have l1:=h3.cell a (by rw [h4.len];exact ha)
 unfold br;obtain⟨i,hi⟩:∃ i,ef m p a=i:=⟨_,rfl⟩;rw [hi] at g1 g2 ⊢;rw [<- g2,h4.log i g1,g2] at l1;have hk:2 ^ m-1-i<2 ^ m:=by omega
 have l2:=h2.cell (2 ^ m-1-i) (by rw [sb];exact hk)
 rw [sd m p _ hk] at l2;obtain⟨N,hN⟩:∃ N,2 ^ m=N:=⟨_,rfl⟩;have hN4:N<=4096:=by rw [<- hN];exact Nat.le_trans (Nat.pow_le_pow_right (by omega) hm) (by decide)
 rw [hN] at c0 c1 c4 ha g1 l2 hk ⊢;obtain⟨r,hr⟩:∃ r,gx m p (N-1-i)=r:=⟨_,rfl⟩;rw [hr] at l2 ⊢;obtain⟨k,hkk⟩:∃ k,N-1-i=k:=⟨_,rfl⟩;rw [hkk] at l2 hk;have he:(N:Int)-(i:Int)-1=(k:Int):=by omega
 have hb:((a:Int)==0)=false:=by simp;omega
 clear h1 h2 h3 h4 g2 hN hi hr F hP
 go_enter Tryz.func191,Tryz.ntmps191
 go_wp2
 go_quiet (fail)
 go_wp2
 go_ret2
 exact⟨rfl,_,rfl⟩
theorem gfQR (w:World):Calls Tryz.prog 79 #[] w fun e w'=>∃ gf,e=.returned (.pointer (some ⟨gf,0,none⟩))/\w.heap.size<=gf/\bF w' gf 8 285 0/\Below w.heap.size w w':=by
 have k:Calls Tryz.prog 124 #[.int .i64 285,.int .i64 256,.int .i64 0] w _:=KS w 8 285 0 gh pQR (by omega) (by omega)
 go_enter Tryz.func79,Tryz.ntmps79
 go_wp2_with (go_at_call 124;refine k.mono ?_;rintro e w' ⟨gf,rfl,h1,h2,h3⟩)
 have H2:=Mw h2;clear h2
 go_ret
 exact⟨gf,rfl,h1,H2.out,h3⟩
theorem Mf (w:World)(gf:Nat):Calls Tryz.prog 78 #[.pointer (some ⟨gf,0,none⟩)] w fun e w'=>e=.returned (.pointer (some ⟨w.heap.size,0,none⟩))/\w'=w.alloc (.cells #[.pointer (some ⟨gf,0,none⟩)] 196):=by
 go_enter Tryz.func78,Tryz.ntmps78
 go_wp2
 go_ret
 exact⟨rfl,rfl⟩
def fP (w:World)(d rs gf:Nat):Prop:=Blk w d 137 #[.pointer (some ⟨rs,0,none⟩)]/\Blk w rs 196 #[.pointer (some ⟨gf,0,none⟩)]/\bF w gf 8 285 0
theorem fP.below {w w':World}{d rs gf B:Nat}(h:fP w d rs gf)(hb:Below B w w')(hB:w.heap.size<=B):fP w' d rs gf :=
 ⟨h.1.below hb (by have:=h.1.lt;omega),h.2.1.below hb (by have:=h.2.1.lt;omega),h.2.2.below hb hB⟩
theorem Mg (w:World):Calls Tryz.prog 36 #[] w fun e w'=>∃ d rs gf,e=.returned (.pointer (some ⟨d,0,none⟩))/\w.heap.size<=gf/\w.heap.size<=rs/\w.heap.size<=d/\fP w' d rs gf/\Below w.heap.size w w':=by
 go_enter Tryz.func36,Tryz.ntmps36
 go_wp2_with (first | (go_at_call 79;refine (gfQR _).mono ?_;rintro e w' ⟨gf,rfl,h1,h2,h3⟩;have H2:=Mw h2;have H3:=Mw h3;clear h2 h3) | (go_at_call 78;refine (Mf _ gf).mono ?_;rintro e w'' ⟨rfl,rfl⟩))
 go_ret
 have hs:=H3.out.size;refine⟨w'.heap.size+1,w'.heap.size,gf,rfl,h1,by omega,by omega,⟨?_,(Blk.new w' 196 _).alloc _,?_⟩,ai (ai H3.out _) _⟩
 ·simpa using Blk.new (w'.alloc (.cells #[.pointer (some ⟨gf,0,none⟩)] 196)) 137 #[.pointer (some ⟨w'.heap.size,0,none⟩)]
 exact H2.out.below (ai (ai (Below.refl _ _) _) _) (Nat.le_refl _)
structure sp (rows:List (List Bool))(n:Nat):Prop where
 len:rows.length=n
 head:(rows.getD 0 []).length=n
 row:∀ y,y<n->n<=(rows.getD y []).length/\(rows.getD y []).length<=1000000
def sr (f:Nat->Nat->Bool)(v:Nat):Prop:=7<=v->hd (gG f (17+4*v) 18) (bS.getD (v-7) 0)<=3
theorem Bd (w:World)(p g b v:Nat)(fm:Value)(f:Nat->Nat->Bool)(hP:ig w p g v fm)(G:aQ w g b (17+4*v) (17+4*v) f)(hv:1<=v/\v<=40)(hok:sr f v) :
  Calls Tryz.prog 39 #[.pointer (some ⟨p,0,none⟩)] w (r7 w p g v fm):=by
 obtain⟨x1,hB,hx⟩:=hP;rcases hx with rfl | ⟨pv,rfl,hV⟩
 rotate_left
 ·exact Kn w p g v pv fm hB hV
 by_cases h:v<=6
 ·exact Km w p g b v fm f hB G ⟨hv.1,h⟩
 exact Ko w p g b v fm f hB G ⟨by omega,hv.2⟩ (hok (by omega))
theorem Mh (w:World)(p n:Nat)(v:eo)(h:bT w p (n:Int) v):Calls Tryz.prog 41 #[.pointer (some ⟨p,0,none⟩)] w fun e w'=>e=.returned (.int .i64 (n:Int))/\w=w':=by
 obtain⟨gc,ge,g,h1,_⟩:=h;exact EE w p _ (h1.cell 0)
theorem Mi (w:World)(q d:Nat)(h:j7 w q d):Calls Tryz.prog 42 #[.pointer (some ⟨q,0,none⟩)] w fun e w'=>e=.returned (.int .i64 ((d/8:Nat):Int))/\w=w':=by
 have c0:w.cell? ⟨q,0,none⟩=_:=Blk.cell h 0;obtain⟨x,hx⟩:∃ x,d/8=x:=⟨_,rfl⟩;rw [hx] at c0 ⊢;clear h hx;replace c0:w.cell? ⟨q,0,none⟩=some (.int .i64 (x:Int)):=c0
 go_enter Tryz.func42,Tryz.ntmps42
 go_wp2
 go_ret
 exact⟨rfl,rfl⟩
theorem Mj (w:World)(q d:Nat)(h:j7 w q d):Calls Tryz.prog 44 #[.pointer (some ⟨q,0,none⟩)] w fun e w'=>e=.returned (.int .u8 ((d%8:Nat):Int))/\w=w':=by
 have c0:w.cell? ⟨q,1,none⟩=_:=Blk.cell h 1;obtain⟨x,hx⟩:∃ x,d%8=x:=⟨_,rfl⟩;rw [hx] at c0 ⊢;clear h hx;replace c0:w.cell? ⟨q,1,none⟩=some (.int .u8 (x:Int)):=c0
 go_enter Tryz.func44,Tryz.ntmps44
 go_wp2
 go_ret
 exact⟨rfl,rfl⟩
def eB (m x y:Nat):Bool:=match m with
 | 0=>decide ((x+y)%2=0)
 | 1=>decide (y%2=0)
 | 2=>decide (x%3=0)
 | 3=>decide ((x+y)%3=0)
 | 4=>decide ((y/2+x/3)%2=0)
 | 5=>decide (x*y%2+x*y%3=0)
 | 6=>decide ((x*y%2+x*y%3)%2=0)
 | _=>decide (((x+y)%2+x*y%3)%2=0)
theorem ss (n:Nat)(h:n<4294967296):Go.bits .and .i64 (n:Int) 1=((n%2:Nat):Int):=by
 have:=pz n 1 h (by omega);rw [Nat.and_one_is_mod] at this;exact this
theorem mf {a b:Bool}(h:a=b):Ending.returned (.bool a)=.returned (.bool b):=by rw [h]
theorem lA (n:Nat):(((n:Nat):Int)==0)=decide (n=0):=by
 by_cases h:n=0
 ·subst h;rfl
 rw [decide_eq_false h];simpa using h
def kx (f m:Nat):Prop:=∀ (i j:Nat) (w:World),i<=1000->j<=1000->Calls Tryz.prog f #[.int .i64 (i:Int),.int .i64 (j:Int)] w fun e w'=>e=.returned (.bool (eB m j i))/\w=w'
theorem Mk:kx 132 0:=by
 intro i j w hi hj;have ha:Go.bits .and .i64 ((i:Int)+(j:Int)) 1=(((i+j)%2:Nat):Int):=by rw [<- ss (i+j) (by omega)];congr 1
 go_enter Tryz.func132,Tryz.ntmps132
 go_wp2
 go_ret
 exact⟨mf (by rw [show (eB 0 j i)=decide ((j+i)%2=0) from rfl,Nat.add_comm j i];exact lA _),rfl⟩
theorem Ml:kx 133 1:=by
 intro i j w hi hj;have ha:Go.bits .and .i64 (i:Int) 1=((i%2:Nat):Int):=ss i (by omega)
 go_enter Tryz.func133,Tryz.ntmps133
 go_wp2
 go_ret
 exact⟨mf (lA _),rfl⟩
theorem Mm:kx 134 2:=by
 intro i j w hi hj
 go_enter Tryz.func134,Tryz.ntmps134
 go_wp2
 go_ret
 exact⟨mf (by rw [show (eB 2 j i)=decide (j%3=0) from rfl,<- lA];rfl),rfl⟩
theorem Mn:kx 135 3:=by
 intro i j w hi hj
 go_enter Tryz.func135,Tryz.ntmps135
 go_wp2
 go_ret
 exact⟨mf (by rw [show (eB 3 j i)=decide ((j+i)%3=0) from rfl,<- lA,Nat.add_comm];rfl),rfl⟩
theorem Mo:kx 136 4:=by
 intro i j w hi hj;have ha:Go.bits .and .i64 ((i:Int)/2+(j:Int)/3) 1=(((i/2+j/3)%2:Nat):Int):=by rw [<- ss (i/2+j/3) (by omega)];congr 1
 go_enter Tryz.func136,Tryz.ntmps136
 go_wp2
 go_ret
 exact⟨mf (lA _),rfl⟩
theorem uT (i j:Nat)(hi:i<=1000)(hj:j<=1000):i*j<=1000000:=Nat.mul_le_mul hi hj
theorem mod5 (q:Nat):(q%6=0)↔(q%2+q%3=0):=by omega
theorem mod6 (q:Nat):((q:Int)%6<3)↔((q%2+q%3)%2=0):=by omega
theorem mod7 (a q:Nat):((a+q%3)%2=0)↔((a%2+q%3)%2=0):=by omega
theorem Mp:kx 137 5:=by
 intro i j w hi hj;obtain⟨q,hq⟩:∃ q,i*j=q:=⟨_,rfl⟩;have hql:q<=1000000:=by rw [<- hq];exact uT i j hi hj
 have hw:wrap64 ((i:Int)*(j:Int))=(q:Int):=by rw [<- Int.natCast_mul,hq];unfold wrap64;omega
 have HQ:=Mw hq;clear hq
 go_enter Tryz.func137,Tryz.ntmps137
 go_wp2
 go_ret
 refine⟨mf ?_,rfl⟩;rw [show (eB 5 j i)=decide (j*i%2+j*i%3=0) from rfl,Nat.mul_comm j i,HQ.out];have e:(((q:Nat):Int)%6==0)=decide (q%6=0):=by rw [<- lA];rfl
 refine e.trans ?_;rw [decide_eq_decide];exact mod5 q
theorem Mq:kx 138 6:=by
 intro i j w hi hj;obtain⟨q,hq⟩:∃ q,i*j=q:=⟨_,rfl⟩;have hql:q<=1000000:=by rw [<- hq];exact uT i j hi hj
 have hw:wrap64 ((i:Int)*(j:Int))=(q:Int):=by rw [<- Int.natCast_mul,hq];unfold wrap64;omega
 have HQ:=Mw hq;clear hq
 go_enter Tryz.func138,Tryz.ntmps138
 go_wp2
 go_ret
 refine⟨mf ?_,rfl⟩;rw [show (eB 6 j i)=decide ((j*i%2+j*i%3)%2=0) from rfl,Nat.mul_comm j i,HQ.out];rw [decide_eq_decide];exact mod6 q
theorem Mr:kx 139 7:=by
 intro i j w hi hj;obtain⟨q,hq⟩:∃ q,i*j=q:=⟨_,rfl⟩;have hql:q<=1000000:=by rw [<- hq];exact uT i j hi hj
 have hw:wrap64 ((i:Int)*(j:Int))=(q:Int):=by rw [<- Int.natCast_mul,hq];unfold wrap64;omega
 have ha:Go.bits .and .i64 ((i:Int)+(j:Int)+(q:Int)%3) 1=(((i+j+q%3)%2:Nat):Int):=by rw [<- ss (i+j+q%3) (by omega)];congr 1
 have HQ:=Mw hq;clear hq
 go_enter Tryz.func139,Tryz.ntmps139
 go_wp2
 go_ret
 refine⟨mf ?_,rfl⟩;rw [show (eB 7 j i)=decide (((j+i)%2+j*i%3)%2=0) from rfl,Nat.mul_comm j i,HQ.out];refine (lA _).trans ?_;rw [decide_eq_decide,Nat.add_comm j i];exact mod7 (i+j) q
theorem Ms (m:Nat)(h:m<8):kx (132+m) m:=by
 match m,h with
 | 0,_=>exact Mk
 | 1,_=>exact Ml
 | 2,_=>exact Mm
 | 3,_=>exact Mn
 | 4,_=>exact Mo
 | 5,_=>exact Mp
 | 6,_=>exact Mq
 | 7,_=>exact Mr
def jg (m:Nat):Value:=.func (.func (132+m)) #[] #[]
def Be:Array Value:=#[jg 0,jg 1,jg 2,jg 3,jg 4,jg 5,jg 6,jg 7]
theorem Mt (w:World):Calls Tryz.prog 90 #[] w fun e w'=>e=.returned (.slice (some ⟨w.heap.size,0,none⟩) 8 8)/\w'=w.alloc (.cells Be 159):=by
 go_enter Tryz.func90,Tryz.ntmps90
 go_wp2
 go_ret
 exact⟨rfl,rfl⟩
def turned (m:Nat)(f:Nat->Nat->Bool)(i j:Nat):Nat->Nat->Bool:=fun x y=>if y<i\/y=i/\x<j then f x y != eB m x y else f x y
set_option maxHeartbeats 8000000 in
theorem Mu (w:World)(FN m g b n:Nat)(f:Nat->Nat->Bool)(hM:kx FN m)(hF:FN=132\/FN=133\/FN=134\/FN=135\/FN=136\/FN=137\/FN=138\/FN=139)(G:aQ w g b n n f)(hn:n<=1000) :
  Calls Tryz.prog 91 #[.agg #[.func (.func FN) #[] #[]],.pointer (some ⟨g,0,none⟩),.int .i64 (n:Int)] w fun e w'=>e=.returned (.tuple #[])/\aQ w' g b n n (fun x y=>f x y != eB m x y)/\aC w w' b:=by
 have hlt:=G.lt;have HMASK:=Mw hM;obtain⟨w0,hw0⟩:∃ w0,w0=w.alloc (.cells #[.func (.func FN) #[] #[]] 159):=⟨_,rfl⟩;have HB0:=Mw (show Below w.heap.size w w0 by rw [hw0];exact ai (Below.refl _ _) _)
 have HM0:=Mw (show Blk w0 w.heap.size 159 #[.func (.func FN) #[] #[]] by rw [hw0];exact Blk.new _ _ _)
 have HG0:=Mw (G.below HB0.out hlt.1 hlt.2);obtain⟨B0,hB⟩:∃ B0,B0=w.heap.size:=⟨_,rfl⟩;have hne:b≠B0:=by omega
 have HW:=Mw hw0;have HBB:=Mw hB;have hb0:b<B0:=by omega
 clear G hlt hw0 hB hM;rcases hF with rfl | rfl | rfl | rfl | rfl | rfl | rfl | rfl
 all_goals
  go_enter Tryz.func91,Tryz.ntmps91
  go_wp2
  rw [<- HW.out,<- HBB.out];rw [<- HBB.out] at HB0 HM0
  go_loopw [6] (fun v wr=>∃ i:Nat,i<=n/\v=.int .i64 (i:Int)/\Aside0 (aQ wr g b n n (turned m f i 0))/\Aside0 (af w0 wr b)) (fun v _=>(n-intOf v).toNat)
  case atStart=>exact⟨0,by omega,rfl,⟨HG0.out.congr fun x y _ _=>by unfold turned;rw [if_neg (by omega)]⟩,⟨af.refl _ _⟩⟩
  case round=>
   obtain⟨i,hi,rfl,HG,HT⟩:=hrel;by_cases hlt:i<n;rotate_left
   ·have:i=n:=by omega
    subst this
    go_wp2
    go_end0
    refine⟨rfl,HG.out.congr fun x y hx hy=>by unfold turned;rw [if_pos (by omega)],?_⟩
    have hb':Below w.heap.size w w0:=by rw [<- HBB.out];exact HB0.out
    exact (aC.of_below hb' b).trans (aC.of_turn HT.out)
   go_wp2
   obtain⟨wo,rfl⟩:∃ wo:World,wo=wr:=⟨_,rfl⟩
   go_loopw [7] (fun v wi=>∃ j:Nat,j<=n/\v=.int .i64 (j:Int)/\Aside0 (aQ wi g b n n (turned m f i j))/\Aside0 (af w0 wi b)) (fun v _=>(n-intOf v).toNat)
   case atStart=>exact⟨0,by omega,rfl,HG,HT⟩
   case round=>
    obtain⟨j,hj,rfl,HGi,HTi⟩:=hrel;by_cases hltj:j<n;rotate_left
    ·have:j=n:=by omega
     subst this
     go_wp2
     go_roundw
     case rel=>exact⟨i+1,by omega,by go_num,⟨HGi.out.congr fun x y hx hy=>by
      unfold turned;by_cases e2:y<i\/y=i/\x<j
      ·rw [if_pos e2,if_pos (by omega)]
      rw [if_neg e2,if_neg (by omega)]⟩,HTi⟩
     case measure=>simp [intOf];omega
    have hmb:=HTi.out.blk HM0.out (by omega);have c0:=hmb.cell 0;have kc:=HMASK.out i j wr (by omega) (by omega);clear hmb;cases hbit:eB m j i with
    | true=>
     rw [hbit] at kc;have HBIT:=Mw hbit;clear hbit
     go_wp2_with (first | (go_at_call 140;refine (LD _ g b n n _ j i HGi.out hltj hlt hn hn).mono ?_;rintro e w' ⟨rfl,hG2,hT2⟩) | ((first | go_at_call 132 | go_at_call 133 | go_at_call 134 | go_at_call 135 | go_at_call 136 | go_at_call 137 | go_at_call 138 | go_at_call 139);refine kc.mono ?_;rintro e w' ⟨rfl,rfl⟩))
     go_roundw
     case rel=>exact⟨j+1,by omega,by go_num,⟨hG2.congr fun x y hx hy=>by
      unfold turned;by_cases e:x=j/\y=i
      ·rw [if_pos e,if_neg (by omega),if_pos (by omega),e.1,e.2,HBIT.out];cases f j i<;>rfl
      rw [if_neg e];by_cases e2:y<i\/y=i/\x<j
      ·rw [if_pos e2,if_pos (by omega)]
      rw [if_neg e2,if_neg (by omega)]⟩,⟨HTi.out.trans hT2⟩⟩
     case measure=>simp [intOf];omega
    | false=>
     rw [hbit] at kc;have HBIT:=Mw hbit;clear hbit
     go_wp2_with ((first | go_at_call 132 | go_at_call 133 | go_at_call 134 | go_at_call 135 | go_at_call 136 | go_at_call 137 | go_at_call 138 | go_at_call 139);refine kc.mono ?_;rintro e w' ⟨rfl,rfl⟩)
     go_roundw
     case rel=>exact⟨j+1,by omega,by go_num,⟨HGi.out.congr fun x y hx hy=>by
      unfold turned;by_cases e:x=j/\y=i
      ·rw [if_neg (by omega),if_pos (by omega),e.1,e.2,HBIT.out];cases f j i<;>rfl
      by_cases e2:y<i\/y=i/\x<j
      ·rw [if_pos e2,if_pos (by omega)]
      rw [if_neg e2,if_neg (by omega)]⟩,HTi⟩
     case measure=>simp [intOf];omega
theorem Mv (w:World)(m g b n:Nat)(f:Nat->Nat->Bool)(hm:m<8)(G:aQ w g b n n f)(hn:n<=1000) :
  Calls Tryz.prog 91 #[.agg #[jg m],.pointer (some ⟨g,0,none⟩),.int .i64 (n:Int)] w fun e w'=>e=.returned (.tuple #[])/\aQ w' g b n n (fun x y=>f x y != eB m x y)/\aC w w' b :=
 Mu w (132+m) m g b n f (Ms m hm) (by omega) G hn
end Go.Proofs.YtgccjgpdjkhpdaaGreat.B
