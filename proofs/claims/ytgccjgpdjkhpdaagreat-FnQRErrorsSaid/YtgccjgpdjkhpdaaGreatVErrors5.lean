import Derived.Test.YtgccjgpdjkhpdaaGreatVErrors2
open Go.Proofs.YtgccjgpdjkhpdaaGreatW.PrintWords.Aside0 renaming mk→Mw
/-! Own texts of this claim, part 5. -/
namespace Go.Proofs.YtgccjgpdjkhpdaaGreat.F
open Go.RowKit Go.Proofs.YtgccjgpdjkhpdaaGreatW.PrintWords Go.Proofs.YtgccjgpdjkhpdaaGreatW.PrintLast Go.Proofs.YtgccjgpdjkhpdaaGreatW.PrintMore
attribute [local go_sem] fB fC fD fE fF fG fH fI
set_option linter.unusedVariables false
set_option linter.unusedSimpArgs false
def mQ.f (a0:Int):Option (Int):=some (Go.bits .and .i64 (wrap64 (IntKind.u64.wrap ((IntKind.u64.wrap ((IntKind.u64.wrap ((Go.bits .and .u64 (IntKind.u64.wrap (((IntKind.u64.wrap ((Go.bits .and .u64 ((IntKind.u64.wrap ((Go.bits .and .u64 (a0/2) 6148914691236517205)+(Go.bits .and .u64 a0 6148914691236517205)))/4) 3689348814741910323)+(Go.bits .and .u64 (IntKind.u64.wrap ((Go.bits .and .u64 (a0/2) 6148914691236517205)+(Go.bits .and .u64 a0 6148914691236517205))) 3689348814741910323)))/16)+(IntKind.u64.wrap ((Go.bits .and .u64 ((IntKind.u64.wrap ((Go.bits .and .u64 (a0/2) 6148914691236517205)+(Go.bits .and .u64 a0 6148914691236517205)))/4) 3689348814741910323)+(Go.bits .and .u64 (IntKind.u64.wrap ((Go.bits .and .u64 (a0/2) 6148914691236517205)+(Go.bits .and .u64 a0 6148914691236517205))) 3689348814741910323))))) 1085102592571150095)+((Go.bits .and .u64 (IntKind.u64.wrap (((IntKind.u64.wrap ((Go.bits .and .u64 ((IntKind.u64.wrap ((Go.bits .and .u64 (a0/2) 6148914691236517205)+(Go.bits .and .u64 a0 6148914691236517205)))/4) 3689348814741910323)+(Go.bits .and .u64 (IntKind.u64.wrap ((Go.bits .and .u64 (a0/2) 6148914691236517205)+(Go.bits .and .u64 a0 6148914691236517205))) 3689348814741910323)))/16)+(IntKind.u64.wrap ((Go.bits .and .u64 ((IntKind.u64.wrap ((Go.bits .and .u64 (a0/2) 6148914691236517205)+(Go.bits .and .u64 a0 6148914691236517205)))/4) 3689348814741910323)+(Go.bits .and .u64 (IntKind.u64.wrap ((Go.bits .and .u64 (a0/2) 6148914691236517205)+(Go.bits .and .u64 a0 6148914691236517205))) 3689348814741910323))))) 1085102592571150095)/256)))+((IntKind.u64.wrap ((Go.bits .and .u64 (IntKind.u64.wrap (((IntKind.u64.wrap ((Go.bits .and .u64 ((IntKind.u64.wrap ((Go.bits .and .u64 (a0/2) 6148914691236517205)+(Go.bits .and .u64 a0 6148914691236517205)))/4) 3689348814741910323)+(Go.bits .and .u64 (IntKind.u64.wrap ((Go.bits .and .u64 (a0/2) 6148914691236517205)+(Go.bits .and .u64 a0 6148914691236517205))) 3689348814741910323)))/16)+(IntKind.u64.wrap ((Go.bits .and .u64 ((IntKind.u64.wrap ((Go.bits .and .u64 (a0/2) 6148914691236517205)+(Go.bits .and .u64 a0 6148914691236517205)))/4) 3689348814741910323)+(Go.bits .and .u64 (IntKind.u64.wrap ((Go.bits .and .u64 (a0/2) 6148914691236517205)+(Go.bits .and .u64 a0 6148914691236517205))) 3689348814741910323))))) 1085102592571150095)+((Go.bits .and .u64 (IntKind.u64.wrap (((IntKind.u64.wrap ((Go.bits .and .u64 ((IntKind.u64.wrap ((Go.bits .and .u64 (a0/2) 6148914691236517205)+(Go.bits .and .u64 a0 6148914691236517205)))/4) 3689348814741910323)+(Go.bits .and .u64 (IntKind.u64.wrap ((Go.bits .and .u64 (a0/2) 6148914691236517205)+(Go.bits .and .u64 a0 6148914691236517205))) 3689348814741910323)))/16)+(IntKind.u64.wrap ((Go.bits .and .u64 ((IntKind.u64.wrap ((Go.bits .and .u64 (a0/2) 6148914691236517205)+(Go.bits .and .u64 a0 6148914691236517205)))/4) 3689348814741910323)+(Go.bits .and .u64 (IntKind.u64.wrap ((Go.bits .and .u64 (a0/2) 6148914691236517205)+(Go.bits .and .u64 a0 6148914691236517205))) 3689348814741910323))))) 1085102592571150095)/256)))/65536)))+((IntKind.u64.wrap ((IntKind.u64.wrap ((Go.bits .and .u64 (IntKind.u64.wrap (((IntKind.u64.wrap ((Go.bits .and .u64 ((IntKind.u64.wrap ((Go.bits .and .u64 (a0/2) 6148914691236517205)+(Go.bits .and .u64 a0 6148914691236517205)))/4) 3689348814741910323)+(Go.bits .and .u64 (IntKind.u64.wrap ((Go.bits .and .u64 (a0/2) 6148914691236517205)+(Go.bits .and .u64 a0 6148914691236517205))) 3689348814741910323)))/16)+(IntKind.u64.wrap ((Go.bits .and .u64 ((IntKind.u64.wrap ((Go.bits .and .u64 (a0/2) 6148914691236517205)+(Go.bits .and .u64 a0 6148914691236517205)))/4) 3689348814741910323)+(Go.bits .and .u64 (IntKind.u64.wrap ((Go.bits .and .u64 (a0/2) 6148914691236517205)+(Go.bits .and .u64 a0 6148914691236517205))) 3689348814741910323))))) 1085102592571150095)+((Go.bits .and .u64 (IntKind.u64.wrap (((IntKind.u64.wrap ((Go.bits .and .u64 ((IntKind.u64.wrap ((Go.bits .and .u64 (a0/2) 6148914691236517205)+(Go.bits .and .u64 a0 6148914691236517205)))/4) 3689348814741910323)+(Go.bits .and .u64 (IntKind.u64.wrap ((Go.bits .and .u64 (a0/2) 6148914691236517205)+(Go.bits .and .u64 a0 6148914691236517205))) 3689348814741910323)))/16)+(IntKind.u64.wrap ((Go.bits .and .u64 ((IntKind.u64.wrap ((Go.bits .and .u64 (a0/2) 6148914691236517205)+(Go.bits .and .u64 a0 6148914691236517205)))/4) 3689348814741910323)+(Go.bits .and .u64 (IntKind.u64.wrap ((Go.bits .and .u64 (a0/2) 6148914691236517205)+(Go.bits .and .u64 a0 6148914691236517205))) 3689348814741910323))))) 1085102592571150095)/256)))+((IntKind.u64.wrap ((Go.bits .and .u64 (IntKind.u64.wrap (((IntKind.u64.wrap ((Go.bits .and .u64 ((IntKind.u64.wrap ((Go.bits .and .u64 (a0/2) 6148914691236517205)+(Go.bits .and .u64 a0 6148914691236517205)))/4) 3689348814741910323)+(Go.bits .and .u64 (IntKind.u64.wrap ((Go.bits .and .u64 (a0/2) 6148914691236517205)+(Go.bits .and .u64 a0 6148914691236517205))) 3689348814741910323)))/16)+(IntKind.u64.wrap ((Go.bits .and .u64 ((IntKind.u64.wrap ((Go.bits .and .u64 (a0/2) 6148914691236517205)+(Go.bits .and .u64 a0 6148914691236517205)))/4) 3689348814741910323)+(Go.bits .and .u64 (IntKind.u64.wrap ((Go.bits .and .u64 (a0/2) 6148914691236517205)+(Go.bits .and .u64 a0 6148914691236517205))) 3689348814741910323))))) 1085102592571150095)+((Go.bits .and .u64 (IntKind.u64.wrap (((IntKind.u64.wrap ((Go.bits .and .u64 ((IntKind.u64.wrap ((Go.bits .and .u64 (a0/2) 6148914691236517205)+(Go.bits .and .u64 a0 6148914691236517205)))/4) 3689348814741910323)+(Go.bits .and .u64 (IntKind.u64.wrap ((Go.bits .and .u64 (a0/2) 6148914691236517205)+(Go.bits .and .u64 a0 6148914691236517205))) 3689348814741910323)))/16)+(IntKind.u64.wrap ((Go.bits .and .u64 ((IntKind.u64.wrap ((Go.bits .and .u64 (a0/2) 6148914691236517205)+(Go.bits .and .u64 a0 6148914691236517205)))/4) 3689348814741910323)+(Go.bits .and .u64 (IntKind.u64.wrap ((Go.bits .and .u64 (a0/2) 6148914691236517205)+(Go.bits .and .u64 a0 6148914691236517205))) 3689348814741910323))))) 1085102592571150095)/256)))/65536)))/4294967296)))) 127)
set_option maxHeartbeats 8000000 in
set_option maxRecDepth 100000 in
theorem mQ.calls (a0:Int)(r:Int)(w:World)(h:mQ.f a0=some r) :
  Calls Tryz.prog 168 #[.int .u64 a0] w fun e w'=>e=.returned (.int .i64 r)/\aj w w':=by
 have H:(some (Go.bits .and .i64 (wrap64 (IntKind.u64.wrap ((IntKind.u64.wrap ((IntKind.u64.wrap ((Go.bits .and .u64 (IntKind.u64.wrap (((IntKind.u64.wrap ((Go.bits .and .u64 ((IntKind.u64.wrap ((Go.bits .and .u64 (a0/2) 6148914691236517205)+(Go.bits .and .u64 a0 6148914691236517205)))/4) 3689348814741910323)+(Go.bits .and .u64 (IntKind.u64.wrap ((Go.bits .and .u64 (a0/2) 6148914691236517205)+(Go.bits .and .u64 a0 6148914691236517205))) 3689348814741910323)))/16)+(IntKind.u64.wrap ((Go.bits .and .u64 ((IntKind.u64.wrap ((Go.bits .and .u64 (a0/2) 6148914691236517205)+(Go.bits .and .u64 a0 6148914691236517205)))/4) 3689348814741910323)+(Go.bits .and .u64 (IntKind.u64.wrap ((Go.bits .and .u64 (a0/2) 6148914691236517205)+(Go.bits .and .u64 a0 6148914691236517205))) 3689348814741910323))))) 1085102592571150095)+((Go.bits .and .u64 (IntKind.u64.wrap (((IntKind.u64.wrap ((Go.bits .and .u64 ((IntKind.u64.wrap ((Go.bits .and .u64 (a0/2) 6148914691236517205)+(Go.bits .and .u64 a0 6148914691236517205)))/4) 3689348814741910323)+(Go.bits .and .u64 (IntKind.u64.wrap ((Go.bits .and .u64 (a0/2) 6148914691236517205)+(Go.bits .and .u64 a0 6148914691236517205))) 3689348814741910323)))/16)+(IntKind.u64.wrap ((Go.bits .and .u64 ((IntKind.u64.wrap ((Go.bits .and .u64 (a0/2) 6148914691236517205)+(Go.bits .and .u64 a0 6148914691236517205)))/4) 3689348814741910323)+(Go.bits .and .u64 (IntKind.u64.wrap ((Go.bits .and .u64 (a0/2) 6148914691236517205)+(Go.bits .and .u64 a0 6148914691236517205))) 3689348814741910323))))) 1085102592571150095)/256)))+((IntKind.u64.wrap ((Go.bits .and .u64 (IntKind.u64.wrap (((IntKind.u64.wrap ((Go.bits .and .u64 ((IntKind.u64.wrap ((Go.bits .and .u64 (a0/2) 6148914691236517205)+(Go.bits .and .u64 a0 6148914691236517205)))/4) 3689348814741910323)+(Go.bits .and .u64 (IntKind.u64.wrap ((Go.bits .and .u64 (a0/2) 6148914691236517205)+(Go.bits .and .u64 a0 6148914691236517205))) 3689348814741910323)))/16)+(IntKind.u64.wrap ((Go.bits .and .u64 ((IntKind.u64.wrap ((Go.bits .and .u64 (a0/2) 6148914691236517205)+(Go.bits .and .u64 a0 6148914691236517205)))/4) 3689348814741910323)+(Go.bits .and .u64 (IntKind.u64.wrap ((Go.bits .and .u64 (a0/2) 6148914691236517205)+(Go.bits .and .u64 a0 6148914691236517205))) 3689348814741910323))))) 1085102592571150095)+((Go.bits .and .u64 (IntKind.u64.wrap (((IntKind.u64.wrap ((Go.bits .and .u64 ((IntKind.u64.wrap ((Go.bits .and .u64 (a0/2) 6148914691236517205)+(Go.bits .and .u64 a0 6148914691236517205)))/4) 3689348814741910323)+(Go.bits .and .u64 (IntKind.u64.wrap ((Go.bits .and .u64 (a0/2) 6148914691236517205)+(Go.bits .and .u64 a0 6148914691236517205))) 3689348814741910323)))/16)+(IntKind.u64.wrap ((Go.bits .and .u64 ((IntKind.u64.wrap ((Go.bits .and .u64 (a0/2) 6148914691236517205)+(Go.bits .and .u64 a0 6148914691236517205)))/4) 3689348814741910323)+(Go.bits .and .u64 (IntKind.u64.wrap ((Go.bits .and .u64 (a0/2) 6148914691236517205)+(Go.bits .and .u64 a0 6148914691236517205))) 3689348814741910323))))) 1085102592571150095)/256)))/65536)))+((IntKind.u64.wrap ((IntKind.u64.wrap ((Go.bits .and .u64 (IntKind.u64.wrap (((IntKind.u64.wrap ((Go.bits .and .u64 ((IntKind.u64.wrap ((Go.bits .and .u64 (a0/2) 6148914691236517205)+(Go.bits .and .u64 a0 6148914691236517205)))/4) 3689348814741910323)+(Go.bits .and .u64 (IntKind.u64.wrap ((Go.bits .and .u64 (a0/2) 6148914691236517205)+(Go.bits .and .u64 a0 6148914691236517205))) 3689348814741910323)))/16)+(IntKind.u64.wrap ((Go.bits .and .u64 ((IntKind.u64.wrap ((Go.bits .and .u64 (a0/2) 6148914691236517205)+(Go.bits .and .u64 a0 6148914691236517205)))/4) 3689348814741910323)+(Go.bits .and .u64 (IntKind.u64.wrap ((Go.bits .and .u64 (a0/2) 6148914691236517205)+(Go.bits .and .u64 a0 6148914691236517205))) 3689348814741910323))))) 1085102592571150095)+((Go.bits .and .u64 (IntKind.u64.wrap (((IntKind.u64.wrap ((Go.bits .and .u64 ((IntKind.u64.wrap ((Go.bits .and .u64 (a0/2) 6148914691236517205)+(Go.bits .and .u64 a0 6148914691236517205)))/4) 3689348814741910323)+(Go.bits .and .u64 (IntKind.u64.wrap ((Go.bits .and .u64 (a0/2) 6148914691236517205)+(Go.bits .and .u64 a0 6148914691236517205))) 3689348814741910323)))/16)+(IntKind.u64.wrap ((Go.bits .and .u64 ((IntKind.u64.wrap ((Go.bits .and .u64 (a0/2) 6148914691236517205)+(Go.bits .and .u64 a0 6148914691236517205)))/4) 3689348814741910323)+(Go.bits .and .u64 (IntKind.u64.wrap ((Go.bits .and .u64 (a0/2) 6148914691236517205)+(Go.bits .and .u64 a0 6148914691236517205))) 3689348814741910323))))) 1085102592571150095)/256)))+((IntKind.u64.wrap ((Go.bits .and .u64 (IntKind.u64.wrap (((IntKind.u64.wrap ((Go.bits .and .u64 ((IntKind.u64.wrap ((Go.bits .and .u64 (a0/2) 6148914691236517205)+(Go.bits .and .u64 a0 6148914691236517205)))/4) 3689348814741910323)+(Go.bits .and .u64 (IntKind.u64.wrap ((Go.bits .and .u64 (a0/2) 6148914691236517205)+(Go.bits .and .u64 a0 6148914691236517205))) 3689348814741910323)))/16)+(IntKind.u64.wrap ((Go.bits .and .u64 ((IntKind.u64.wrap ((Go.bits .and .u64 (a0/2) 6148914691236517205)+(Go.bits .and .u64 a0 6148914691236517205)))/4) 3689348814741910323)+(Go.bits .and .u64 (IntKind.u64.wrap ((Go.bits .and .u64 (a0/2) 6148914691236517205)+(Go.bits .and .u64 a0 6148914691236517205))) 3689348814741910323))))) 1085102592571150095)+((Go.bits .and .u64 (IntKind.u64.wrap (((IntKind.u64.wrap ((Go.bits .and .u64 ((IntKind.u64.wrap ((Go.bits .and .u64 (a0/2) 6148914691236517205)+(Go.bits .and .u64 a0 6148914691236517205)))/4) 3689348814741910323)+(Go.bits .and .u64 (IntKind.u64.wrap ((Go.bits .and .u64 (a0/2) 6148914691236517205)+(Go.bits .and .u64 a0 6148914691236517205))) 3689348814741910323)))/16)+(IntKind.u64.wrap ((Go.bits .and .u64 ((IntKind.u64.wrap ((Go.bits .and .u64 (a0/2) 6148914691236517205)+(Go.bits .and .u64 a0 6148914691236517205)))/4) 3689348814741910323)+(Go.bits .and .u64 (IntKind.u64.wrap ((Go.bits .and .u64 (a0/2) 6148914691236517205)+(Go.bits .and .u64 a0 6148914691236517205))) 3689348814741910323))))) 1085102592571150095)/256)))/65536)))/4294967296)))) 127))=some r:=h
 clear h;obtain rfl:=Option.some.inj H
 go_enter Tryz.func168,Tryz.ntmps168
 go_wp2
 go_ret
 exact⟨by first | rfl ,by repeat (first | exact aj.refl _ )⟩
def od.f (a0:Int):Option (Int):=(mQ.f a0).bind fun t143=>(some t143)
set_option maxHeartbeats 8000000 in
set_option maxRecDepth 100000 in
theorem od.calls (a0:Int)(r:Int)(w:World)(h:od.f a0=some r) :
  Calls Tryz.prog 155 #[.int .u64 a0] w fun e w'=>e=.returned (.int .i64 r)/\aj w w':=by
 have H:((mQ.f a0).bind fun t143=>(some t143))=some r:=h;clear h;replace H:=Option.bind_eq_some_iff.mp H;obtain⟨t143,A20,H⟩:=H;replace H:(some t143)=some r:=H;have A2:=Mw A20;clear A20;obtain rfl:=Option.some.inj H
 go_enter Tryz.func155,Tryz.ntmps155
 go_wp2_with (first | ((with_reducible refine bg (f:=168) rfl ?_);refine be (some 7) rfl rfl Tryz.func168 (by kernel_rfl) rfl #[.int .u64 a0] rfl (by (try simp only [List.map_toArray,List.map_cons,List.map_nil]);first | done | rfl | (simp only [List.length_drop,List.length_take];rfl)) ?_;(with_reducible refine (mQ.calls a0 t143 _ A2.out).mono ?_);rintro e w' ⟨rfl,⟨nd,rfl⟩⟩;refine⟨_,rfl,?_⟩))
 go_ret
 exact⟨by first | rfl | (simp;done) | (simp [*];done),by repeat (first | exact aj.refl _ | apply aj.step)⟩
def mR.f (a0:Int)(a1:Int):Option (Int):=(od.f (Go.bits .xor .u64 a0 a1)).bind fun t144=>(some t144)
set_option maxHeartbeats 8000000 in
set_option maxRecDepth 100000 in
theorem mR.calls (a0:Int)(a1:Int)(r:Int)(w:World)(h:mR.f a0 a1=some r) :
  Calls Tryz.prog 128 #[.int .u64 a0,.int .u64 a1] w fun e w'=>e=.returned (.int .i64 r)/\aj w w':=by
 have H:((od.f (Go.bits .xor .u64 a0 a1)).bind fun t144=>(some t144))=some r:=h;clear h;replace H:=Option.bind_eq_some_iff.mp H;obtain⟨t144,A30,H⟩:=H;replace H:(some t144)=some r:=H;have A3:=Mw A30;clear A30;obtain rfl:=Option.some.inj H
 go_enter Tryz.func128,Tryz.ntmps128
 go_wp2_with (first | ((with_reducible refine bg (f:=155) rfl ?_);refine be (some 8) rfl rfl Tryz.func155 (by kernel_rfl) rfl #[.int .u64 (Go.bits .xor .u64 a0 a1)] rfl (by (try simp only [List.map_toArray,List.map_cons,List.map_nil]);first | rfl ) ?_;(with_reducible refine (od.calls (Go.bits .xor .u64 a0 a1) t144 _ A3.out).mono ?_);rintro e w' ⟨rfl,⟨nd,rfl⟩⟩;refine⟨_,rfl,?_⟩))
 go_ret
 exact⟨by first | rfl ,by repeat (first | exact aj.refl _ | apply aj.step)⟩
def ch (w0 W:World)(g:Nat)(f0:Int)(f1:List Int)(f2:List (gV))(f3:Int):Prop:=∃ A1 c1,∃ A2 c2,W.heap[g]? = some (.cells #[.int .i64 f0,.slice A1 f1.length c1,.slice A2 f2.length c2,.int .i64 f3] 154 (0,0))/\w0.heap.size<=g/\Kd.C (Kd.int .i64) w0 A1 f1.length f1/\Kd.C k224 w0 A2 f2.length f2
theorem ch.grown {w0 W:World}{g:Nat}{f0:Int}{f1:List Int}{f2:List (gV)}{f3:Int}{W1:World}{row:Option Nat}(h:ch w0 W g f0 f1 f2 f3)(hw:W.grownBy W1 row)(hne:some g≠row):ch w0 W1 g f0 f1 f2 f3:=by
 obtain⟨A1,c1,A2,c2,hb,hg,hr1,hr2⟩:=h;exact⟨A1,c1,A2,c2,uW hb hw hne,hg,hr1,hr2⟩
theorem ch.fresh {w0 W:World}{g:Nat}{f0:Int}{f1:List Int}{f2:List (gV)}{f3:Int}(h:ch w0 W g f0 f1 f2 f3):∀ k,W.heap.size<=k->k≠g:=by
 obtain⟨A1,c1,A2,c2,hb,hg,hr1,hr2⟩:=h;exact Kd.vH hb
theorem ch.kept {w0 W:World}{g:Nat}{f0:Int}{f1:List Int}{f2:List (gV)}{f3:Int}{W1:World}{S:Nat->Prop}(h:ch w0 W g f0 f1 f2 f3)(hk:cj W W1 S)(hne:¬ S g):ch w0 W1 g f0 f1 f2 f3:=by
 obtain⟨A1,c1,A2,c2,hb,hg,hr1,hr2⟩:=h;exact⟨A1,c1,A2,c2,wj hb hk hne,hg,hr1,hr2⟩
theorem ch.below {w0 W:World}{g:Nat}{f0:Int}{f1:List Int}{f2:List (gV)}{f3:Int}{W1:World}(h:ch w0 W g f0 f1 f2 f3)(hw:Below W.heap.size W W1):ch w0 W1 g f0 f1 f2 f3:=h.grown (sw hw none) (by simp)
theorem ch.alloc {w0 W:World}{g:Nat}{f0:Int}{f1:List Int}{f2:List (gV)}{f3:Int}(h:ch w0 W g f0 f1 f2 f3)(o:Obj):ch w0 (W.alloc o) g f0 f1 f2 f3:=h.below (ai (Below.refl _ _) o)
theorem ch.drewN {w0 W:World}{g:Nat}{f0:Int}{f1:List Int}{f2:List (gV)}{f3:Int}(h:ch w0 W g f0 f1 f2 f3)(m:Nat):ch w0 (W.drewN m) g f0 f1 f2 f3:=h
theorem ch.drew {w0 W:World}{g:Nat}{f0:Int}{f1:List Int}{f2:List (gV)}{f3:Int}(h:ch w0 W g f0 f1 f2 f3):ch w0 W.drew g f0 f1 f2 f3:=h
theorem ch.at_ {w0 W:World}{g:Nat}{f0:Int}{f1:List Int}{f2:List (gV)}{f3:Int}{w':World}{m:Nat}(hq:W.drewN m=w')(h:ch w0 W g f0 f1 f2 f3):ch w0 w' g f0 f1 f2 f3:=by subst hq;exact ch.drewN h m
theorem ch.own_ne {w0 W:World}{g:Nat}{f0:Int}{f1:List Int}{f2:List (gV)}{f3:Int}{α:Type}{d:Kd α}{e:Nat}{base:Nat}{ok:Nat->Prop}{v:Value}{xs:List α}(h:ch w0 W g f0 f1 f2 f3)(ho:d.R e W base ok v xs)(ht:e≠154):some g≠v.ownBlock:=by
 obtain⟨A1,c1,A2,c2,hb,hg,hr1,hr2⟩:=h;exact Kd.vl ho hb ht
theorem ch.lt {w0 W:World}{g:Nat}{f0:Int}{f1:List Int}{f2:List (gV)}{f3:Int}(h:ch w0 W g f0 f1 f2 f3):g<W.heap.size:=by
 obtain⟨A1,c1,A2,c2,hb,hg,hr1,hr2⟩:=h;exact ky hb
theorem ch.ge {w0 W:World}{g:Nat}{f0:Int}{f1:List Int}{f2:List (gV)}{f3:Int}(h:ch w0 W g f0 f1 f2 f3):w0.heap.size<=g:=by
 obtain⟨A1,c1,A2,c2,hb,hg,hr1,hr2⟩:=h;exact hg
theorem ch.far {w0 W:World}{g:Nat}{f0:Int}{f1:List Int}{f2:List (gV)}{f3:Int}{p:Addr}(h:ch w0 W g f0 f1 f2 f3)(hne:g≠p.block)(u:Value):ch w0 (W.setCell p u) g f0 f1 f2 f3:=by
 obtain⟨A1,c1,A2,c2,hb,hg,hr1,hr2⟩:=h;exact⟨A1,c1,A2,c2,sx hb hne u,hg,hr1,hr2⟩
end Go.Proofs.YtgccjgpdjkhpdaaGreat.F
namespace Go.Proofs.YtgccjgpdjkhpdaaGreat.B
open Go.RowKit Go.Proofs.YtgccjgpdjkhpdaaGreatW.PrintWords Go.Proofs.YtgccjgpdjkhpdaaGreatW.PrintLast Go.Proofs.YtgccjgpdjkhpdaaGreatW.PrintMore
set_option linter.unusedVariables false
set_option linter.unusedSimpArgs false
theorem Lo (w:World)(t:TypeId)(cs:Array Value)(i:Nat)(v:Value):(w.alloc (.cells cs t)).setCell ⟨w.heap.size,i,none⟩ v=w.alloc (.cells (cs.setIfInBounds i v) t):=by
 have e:((w.alloc (.cells cs t)).setCell ⟨w.heap.size,i,none⟩ v).heap=w.heap.push (.cells (cs.setIfInBounds i v) t):=by
  apply Array.ext_getElem?;intro k;by_cases hk:k=w.heap.size
  ·subst hk;have h:=bK (heap_alloc_new w (.cells cs t)) i v;simpa using h
  rw [Below.heap_setCell _ _ _ _ hk];by_cases hl:k<w.heap.size
  ·rw [Below.heap_alloc _ _ _ hl,Array.getElem?_push];simp [hk]
  have h1:(w.alloc (.cells cs t)).heap[k]? = none:=Array.getElem?_eq_none (by simp;omega)
  rw [h1];exact (Array.getElem?_eq_none (by simp;omega)).symm
 exact congrArg (fun hp=>({ w with heap:=hp }:World)) e
theorem Lp (w:World)(s:ByteArray)(v:Value) :
  Calls Tryz.prog 131 #[.string s,v] w fun e w'=>e=.returned (.agg #[.string s,.nilIface])/\Below w.heap.size w w':=by
 go_enter Tryz.func131,Tryz.ntmps131
 go_wp2
 exact bodyPost_ret (v:=.agg #[.string s,.nilIface]) (by simp [results,Tryz.results131,go_sem]) rfl ⟨rfl,(Below.refl _ _).alloc (Nat.le_refl _) _⟩
theorem Lq {w:World}{g:Nat}{t:TypeId}{k:IntKind}{xs:List Int}(h:Blk w g t (ac k xs).toArray)(hl:xs.length<=9223372036854775807):Kd.C (Kd.int k) w (some ⟨g,0,none⟩) xs.length xs:=by
 refine Kd.sE (enc:=Value.int k) (d:=(0:Int)) (h1:=fun _=>rfl) ⟨rfl,hl,fun _=>⟨_,rfl,fun j hj=>?_⟩⟩;have:=h.ucell (j:Int) (by omega) (by omega);rw [iu];simpa [rd] using this
theorem Lr (w:World)(s:ByteArray):Calls Tryz.prog 103 #[.string s] w fun e w'=>e=.returned (.iface 216 (.pointer (some ⟨w.heap.size,0,none⟩)))/\w'=w.alloc (.cells #[.string s] 218):=by
 go_enter Tryz.func103,Tryz.ntmps103
 go_wp2
 go_ret
 exact⟨rfl,rfl⟩
theorem pt (w:World)(v:Value):Calls Tryz.prog 89 #[v] w fun e w'=>(∃ x,e=.returned (.iface 208 x))/\Below w.heap.size w w':=by
 go_enter Tryz.func89,Tryz.ntmps89
 go_wp2_with (go_at_call 131;refine (Lp w _ v).mono ?_;rintro e w' ⟨rfl,hb⟩)
 go_ret
 exact⟨⟨_,rfl⟩,hb⟩
theorem Lt (w:World)(s:ByteArray)(t:TypeId)(x:Value) :
  Calls Tryz.prog 129 #[.string s,.iface t x] w fun e w'=>e=.returned (.agg #[.string s,.iface t x])/\Below w.heap.size w w':=by
 go_enter Tryz.func129,Tryz.ntmps129
 go_wp2
 exact bodyPost_ret (v:=.agg #[.string s,.iface t x]) (by simp [results,Tryz.results129,go_sem]) rfl ⟨rfl,(Below.refl _ _).alloc (Nat.le_refl _) _⟩
theorem jd (w:World)(t:TypeId)(x:Value):Calls Tryz.prog 87 #[.iface t x] w fun e w'=>(∃ y,e=.returned (.iface 208 y))/\Below w.heap.size w w':=by
 go_enter Tryz.func87,Tryz.ntmps87
 go_wp2_with (go_at_call 129;refine (Lt w _ t x).mono ?_;rintro e w' ⟨rfl,hb⟩)
 go_ret
 exact⟨⟨_,rfl⟩,hb⟩
theorem Lu (w:World)(g gb:Nat)(wd ht rs x y o:Int)(xs:List Int)(N:Nat)
  (hg:Blk w g 201 #[.int .i64 wd,.int .i64 ht,.int .i64 rs,.slice (some ⟨gb,0,none⟩) N N]) (hb:Blk w gb 214 (ac .u32 xs).toArray) (hl:xs.length=N) (hN:N<=1000000000)
  (ho:y*rs=o) (h0:0<=o) (h1:0<=x) (h2:x<=100000000) (h3:o+x/32<(N:Int)) :
  Calls Tryz.prog 148 #[.pointer (some ⟨g,0,none⟩),.int .i64 x,.int .i64 y] w fun e w'=>e=.returned (.tuple #[])/\Blk w' gb 214 (ac .u32 (mI xs o x)).toArray/\af w w' gb:=by
 have c2:w.cell? ⟨g,2,none⟩=some (.int .i64 rs):=hg.cell 2;have c3:w.cell? ⟨g,3,none⟩=some (.slice (some ⟨gb,0,none⟩) N N):=hg.cell 3;have c4:w.cell? ⟨gb,(o+x/32).toNat,none⟩=some (.int .u32 (rd xs (o+x/32))):=hb.ucell _ (by omega) (by omega);have c5:=hb.frozen (o+x/32).toNat;have hw:wrap64 (y*rs)=o:=by rw [ho];unfold wrap64;omega
 have HB:=Mw hb;have HO:=Mw ho;have HL:=Mw hl;clear hg hb ho hl
 go_enter Tryz.func148,Tryz.ntmps148
 go_wp2
 go_end0
 exact⟨rfl,HB.out.uset _ _,af.set _ _ _ _⟩
def uG (xs:List Int)(o x:Int):List Int:=xs.set (o+x/32).toNat (Go.bits .xor .u32 (rd xs (o+x/32)) (2 ^ (x%32).toNat%4294967296))
theorem Lv (w:World)(g gb:Nat)(wd ht rs x y o:Int)(xs:List Int)(N:Nat)
  (hg:Blk w g 201 #[.int .i64 wd,.int .i64 ht,.int .i64 rs,.slice (some ⟨gb,0,none⟩) N N]) (hb:Blk w gb 214 (ac .u32 xs).toArray) (hl:xs.length=N) (hN:N<=1000000000)
  (ho:y*rs=o) (h0:0<=o) (h1:0<=x) (h2:x<=100000000) (h3:o+x/32<(N:Int)) :
  Calls Tryz.prog 140 #[.pointer (some ⟨g,0,none⟩),.int .i64 x,.int .i64 y] w fun e w'=>e=.returned (.tuple #[])/\Blk w' gb 214 (ac .u32 (uG xs o x)).toArray/\af w w' gb:=by
 have c2:w.cell? ⟨g,2,none⟩=some (.int .i64 rs):=hg.cell 2;have c3:w.cell? ⟨g,3,none⟩=some (.slice (some ⟨gb,0,none⟩) N N):=hg.cell 3;have c4:w.cell? ⟨gb,(o+x/32).toNat,none⟩=some (.int .u32 (rd xs (o+x/32))):=hb.ucell _ (by omega) (by omega);have c5:=hb.frozen (o+x/32).toNat;have hw:wrap64 (y*rs)=o:=by rw [ho];unfold wrap64;omega
 have HB:=Mw hb;have HO:=Mw ho;have HL:=Mw hl;clear hg hb ho hl
 go_enter Tryz.func140,Tryz.ntmps140
 go_wp2
 go_end0
 exact⟨rfl,HB.out.uset _ _,af.set _ _ _ _⟩
theorem Lw (w:World)(g gb:Nat)(wd ht rs x y o:Int)(xs:List Int)(N:Nat)
  (hg:Blk w g 201 #[.int .i64 wd,.int .i64 ht,.int .i64 rs,.slice (some ⟨gb,0,none⟩) N N]) (hb:Blk w gb 214 (ac .u32 xs).toArray) (hl:xs.length=N) (hN:N<=1000000000)
  (ho:y*rs=o) (h0:0<=o) (h1:0<=x) (h2:x<=100000000) (h3:o+x/32<(N:Int)) (h4:x<wd) (h5:0<=y) (h6:y<ht) :
  Calls Tryz.prog 94 #[.pointer (some ⟨g,0,none⟩),.int .i64 x,.int .i64 y] w fun e w'=>e=.returned (.bool (Go.bits .and .u32 (rd xs (o+x/32)/2 ^ (x%32).toNat) 1 != 0))/\w=w':=by
 have c0:w.cell? ⟨g,0,none⟩=some (.int .i64 wd):=hg.cell 0;have c1:w.cell? ⟨g,1,none⟩=some (.int .i64 ht):=hg.cell 1;have c2:w.cell? ⟨g,2,none⟩=some (.int .i64 rs):=hg.cell 2;have c3:w.cell? ⟨g,3,none⟩=some (.slice (some ⟨gb,0,none⟩) N N):=hg.cell 3;have c4:w.cell? ⟨gb,(o+x/32).toNat,none⟩=some (.int .u32 (rd xs (o+x/32))):=hb.ucell _ (by omega) (by omega);have hw:wrap64 (y*rs)=o:=by rw [ho];unfold wrap64;omega
 have HB:=Mw hb;have HO:=Mw ho;have HL:=Mw hl;clear hg hb ho hl
 go_enter Tryz.func94,Tryz.ntmps94
 go_wp2
 go_ret
 exact⟨rfl,rfl⟩
end Go.Proofs.YtgccjgpdjkhpdaaGreat.B
