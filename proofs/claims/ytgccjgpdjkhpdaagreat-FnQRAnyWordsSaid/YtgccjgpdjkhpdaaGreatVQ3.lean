import Derived.Test.YtgccjgpdjkhpdaaGreatProg
import Derived.Below
import Derived.Deep.Draws
import Derived.Deep.AppendLies
import Derived.Maps.AppendAt
import Derived.OwnWalk
import Derived.Laws.BytesArg
import Derived.Laws.MakeOwn
import Derived.Laws.OwnMore
import Derived.Deep.OwnRows
import Derived.Tactics
import Derived.Lib.ConvBytes
import Derived.Laws.Slices
import Derived.WalkKit
import Derived.KernelRfl
import Derived.RowKit3
import Derived.Deep.LoopGhost
import Derived.Deep.QuietTactic
import Derived.BigQuiet
import Derived.WideLaws
import Derived.Deep.DeepCutAuto
import Derived.Deep.CutBlock
import Derived.Deep.RegionHeld3
import Derived.Laws.Rows
import Derived.Lib.AppendStr
import Derived.ArgAppend
import Derived.Laws.IdiomCopy
import Derived.OrdersHeld
import Derived.Laws.BitsLemmas
import Derived.RowKit
import Derived.Laws.StructEq
import Derived.Deep.SlicePairs
import Derived.Test.YtgccjgpdjkhpdaaGreatVQ1
import Derived.Test.YtgccjgpdjkhpdaaGreatVQ2
/-! Own texts of this claim, part 3. -/
namespace Go.Proofs.YtgccjgpdjkhpdaaGreat.F
open Go.RowKit Go.Proofs.YtgccjgpdjkhpdaaGreatW.PrintWords Go.Proofs.YtgccjgpdjkhpdaaGreatW.PrintLast Go.Proofs.YtgccjgpdjkhpdaaGreatW.PrintMore
attribute [local go_sem] max2_int min2_int max_two min_two max_three min_three max_four min_four
set_option linter.unusedVariables false
set_option linter.unusedSimpArgs false
def errW:Option Int->Value
 | none=>.nilIface
 | some c=>.iface 0 (.int .i64 c)
theorem errW_none:errW none=.nilIface:=rfl
theorem errW_some (c:Int):errW (some c)=.iface 0 (.int .i64 c):=rfl
theorem info3:(Tryz.prog.info? 3).map (fun i=>(i.zero,i.size,i.bytes))=some (some (.int .i64 0),1,8):=by kernel_rfl
theorem info4:(Tryz.prog.info? 4).map (fun i=>(i.zero,i.size,i.bytes))=some (some (.bool false),1,1):=by kernel_rfl
theorem info5:(Tryz.prog.info? 5).map (fun i=>(i.zero,i.size,i.bytes))=some (some (.int .u8 0),1,1):=by kernel_rfl
theorem info45:(Tryz.prog.info? 45).map (fun i=>(i.zero,i.size,i.bytes))=some (some (.slice none 0 0),1,24):=by kernel_rfl
def rd_L1 (xs:List (List Bool))(i:Int):(List Bool):=xs.getD i.toNat ([]:List Bool)
theorem at_L1 {w:World}{A:Option Addr}{n:Nat}{xs:List (List Bool)}(h:Kd.C (Kd.slice 4 Kd.bool) w A n xs)(i:Int)(h0:0<=i)(h1:i<n):∃ ad A0 c0,A=some ad/\w.cell? (ad.add i.toNat)=some (.slice A0 (rd_L1 xs i).length c0)/\(rd_L1 xs i).length<=c0/\Kd.bool.C w A0 (rd_L1 xs i).length (rd_L1 xs i):=by
 obtain⟨ad,c,e,_,hK,hc0⟩:=Kd.C_get h ([]:List Bool) i h0 h1
 have hc:∀ j u,c[j]? = some u->w.cell? (ad.add (i.toNat*1+j))=some u:=hc0
 obtain⟨A0,c0,rfl,l0,g0⟩:=hK
 exact⟨ad,A0,c0,e,by have hq:=hc 0 _ rfl;rwa [Nat.mul_one,Nat.add_zero] at hq,l0,g0⟩
structure S221 where
 f0:Int
 f1:Int
def k221:Kd S221:=Kd.iso (Kd.pair (Kd.int .i64) (Kd.int .i64)) (fun x:S221=>(x.f0,x.f1))
structure S224 where
 f0:Int
 f1:(List S221)
def k224:Kd S224:=Kd.iso (Kd.pair (Kd.int .i64) (Kd.slice 221 k221)) (fun x:S224=>(x.f0,x.f1))
def rd_L10 (xs:List (List Int))(i:Int):(List Int):=xs.getD i.toNat ([]:List Int)
theorem at_L10 {w:World}{A:Option Addr}{n:Nat}{xs:List (List Int)}(h:Kd.C (Kd.slice 5 (Kd.int .u8)) w A n xs)(i:Int)(h0:0<=i)(h1:i<n):∃ ad A0 c0,A=some ad/\w.cell? (ad.add i.toNat)=some (.slice A0 (rd_L10 xs i).length c0)/\(rd_L10 xs i).length<=c0/\(Kd.int .u8).C w A0 (rd_L10 xs i).length (rd_L10 xs i):=by
 obtain⟨ad,c,e,_,hK,hc0⟩:=Kd.C_get h ([]:List Int) i h0 h1
 have hc:∀ j u,c[j]? = some u->w.cell? (ad.add (i.toNat*1+j))=some u:=hc0
 obtain⟨A0,c0,rfl,l0,g0⟩:=hK
 exact⟨ad,A0,c0,e,by have hq:=hc 0 _ rfl;rwa [Nat.mul_one,Nat.add_zero] at hq,l0,g0⟩
structure S98 where
 f0:Int
 f1:(List Int)
def z98:S98:=⟨(0:Int),([]:List Int)⟩
def k98:Kd S98:=Kd.iso (Kd.pair (Kd.int .i64) (Kd.slice 5 (Kd.int .u8))) (fun x:S98=>(x.f0,x.f1))
theorem k98_open {w:World}{x:S98}{cs:List Value}(h:k98.K w x cs):∃ A1 c1,cs=[.int .i64 x.f0,.slice A1 x.f1.length c1]/\x.f1.length<=c1/\(Kd.int .u8).C w A1 x.f1.length x.f1:=by
 obtain⟨_,_,rfl,rfl,⟨A1,c1,rfl,l1,g1⟩⟩:=h
 exact⟨A1,c1,rfl,l1,g1⟩
theorem k98_mkM (w:World)(base:Nat)(ok:Nat->Prop)(x:S98){v1:Value}(g1:(Kd.int .u8).R 5 w base ok v1 x.f1):k98.M w base ok x [.int .i64 x.f0,v1]:=⟨[.int .i64 x.f0],[v1],rfl,rfl,⟨v1,rfl,g1⟩⟩
def rd_T98 (xs:List S98)(i:Int):S98:=xs.getD i.toNat z98
theorem at_T98 {w:World}{A:Option Addr}{n:Nat}{xs:List S98}(h:Kd.C k98 w A n xs)(i:Int)(h0:0<=i)(h1:i<n):∃ ad A1 c1,A=some ad/\w.cell? (ad.add (i.toNat*2))=some (.int .i64 (rd_T98 xs i).f0)/\w.cell? ⟨(ad.add (i.toNat*2)).block,(ad.add (i.toNat*2)).off+1,none⟩=some (.slice A1 (rd_T98 xs i).f1.length c1)/\(rd_T98 xs i).f1.length<=c1/\(Kd.int .u8).C w A1 (rd_T98 xs i).f1.length (rd_T98 xs i).f1:=by
 obtain⟨ad,c,e,_,hK,hc0⟩:=Kd.C_get h z98 i h0 h1
 have hc:∀ j u,c[j]? = some u->w.cell? (ad.add (i.toNat*2+j))=some u:=hc0
 obtain⟨A1,c1,rfl,l1,g1⟩:=k98_open hK
 exact⟨ad,A1,c1,e,hc 0 _ rfl,by rw [<- add_field _ _ 1 (by omega)];exact hc 1 _ rfl,l1,g1⟩
def bits_OnesCount64.f (a0:Int):Option (Int):=some (Go.bits .and .i64 (wrap64 (IntKind.u64.wrap ((IntKind.u64.wrap ((IntKind.u64.wrap ((Go.bits .and .u64 (IntKind.u64.wrap (((IntKind.u64.wrap ((Go.bits .and .u64 ((IntKind.u64.wrap ((Go.bits .and .u64 (a0/2) 6148914691236517205)+(Go.bits .and .u64 a0 6148914691236517205)))/4) 3689348814741910323)+(Go.bits .and .u64 (IntKind.u64.wrap ((Go.bits .and .u64 (a0/2) 6148914691236517205)+(Go.bits .and .u64 a0 6148914691236517205))) 3689348814741910323)))/16)+(IntKind.u64.wrap ((Go.bits .and .u64 ((IntKind.u64.wrap ((Go.bits .and .u64 (a0/2) 6148914691236517205)+(Go.bits .and .u64 a0 6148914691236517205)))/4) 3689348814741910323)+(Go.bits .and .u64 (IntKind.u64.wrap ((Go.bits .and .u64 (a0/2) 6148914691236517205)+(Go.bits .and .u64 a0 6148914691236517205))) 3689348814741910323))))) 1085102592571150095)+((Go.bits .and .u64 (IntKind.u64.wrap (((IntKind.u64.wrap ((Go.bits .and .u64 ((IntKind.u64.wrap ((Go.bits .and .u64 (a0/2) 6148914691236517205)+(Go.bits .and .u64 a0 6148914691236517205)))/4) 3689348814741910323)+(Go.bits .and .u64 (IntKind.u64.wrap ((Go.bits .and .u64 (a0/2) 6148914691236517205)+(Go.bits .and .u64 a0 6148914691236517205))) 3689348814741910323)))/16)+(IntKind.u64.wrap ((Go.bits .and .u64 ((IntKind.u64.wrap ((Go.bits .and .u64 (a0/2) 6148914691236517205)+(Go.bits .and .u64 a0 6148914691236517205)))/4) 3689348814741910323)+(Go.bits .and .u64 (IntKind.u64.wrap ((Go.bits .and .u64 (a0/2) 6148914691236517205)+(Go.bits .and .u64 a0 6148914691236517205))) 3689348814741910323))))) 1085102592571150095)/256)))+((IntKind.u64.wrap ((Go.bits .and .u64 (IntKind.u64.wrap (((IntKind.u64.wrap ((Go.bits .and .u64 ((IntKind.u64.wrap ((Go.bits .and .u64 (a0/2) 6148914691236517205)+(Go.bits .and .u64 a0 6148914691236517205)))/4) 3689348814741910323)+(Go.bits .and .u64 (IntKind.u64.wrap ((Go.bits .and .u64 (a0/2) 6148914691236517205)+(Go.bits .and .u64 a0 6148914691236517205))) 3689348814741910323)))/16)+(IntKind.u64.wrap ((Go.bits .and .u64 ((IntKind.u64.wrap ((Go.bits .and .u64 (a0/2) 6148914691236517205)+(Go.bits .and .u64 a0 6148914691236517205)))/4) 3689348814741910323)+(Go.bits .and .u64 (IntKind.u64.wrap ((Go.bits .and .u64 (a0/2) 6148914691236517205)+(Go.bits .and .u64 a0 6148914691236517205))) 3689348814741910323))))) 1085102592571150095)+((Go.bits .and .u64 (IntKind.u64.wrap (((IntKind.u64.wrap ((Go.bits .and .u64 ((IntKind.u64.wrap ((Go.bits .and .u64 (a0/2) 6148914691236517205)+(Go.bits .and .u64 a0 6148914691236517205)))/4) 3689348814741910323)+(Go.bits .and .u64 (IntKind.u64.wrap ((Go.bits .and .u64 (a0/2) 6148914691236517205)+(Go.bits .and .u64 a0 6148914691236517205))) 3689348814741910323)))/16)+(IntKind.u64.wrap ((Go.bits .and .u64 ((IntKind.u64.wrap ((Go.bits .and .u64 (a0/2) 6148914691236517205)+(Go.bits .and .u64 a0 6148914691236517205)))/4) 3689348814741910323)+(Go.bits .and .u64 (IntKind.u64.wrap ((Go.bits .and .u64 (a0/2) 6148914691236517205)+(Go.bits .and .u64 a0 6148914691236517205))) 3689348814741910323))))) 1085102592571150095)/256)))/65536)))+((IntKind.u64.wrap ((IntKind.u64.wrap ((Go.bits .and .u64 (IntKind.u64.wrap (((IntKind.u64.wrap ((Go.bits .and .u64 ((IntKind.u64.wrap ((Go.bits .and .u64 (a0/2) 6148914691236517205)+(Go.bits .and .u64 a0 6148914691236517205)))/4) 3689348814741910323)+(Go.bits .and .u64 (IntKind.u64.wrap ((Go.bits .and .u64 (a0/2) 6148914691236517205)+(Go.bits .and .u64 a0 6148914691236517205))) 3689348814741910323)))/16)+(IntKind.u64.wrap ((Go.bits .and .u64 ((IntKind.u64.wrap ((Go.bits .and .u64 (a0/2) 6148914691236517205)+(Go.bits .and .u64 a0 6148914691236517205)))/4) 3689348814741910323)+(Go.bits .and .u64 (IntKind.u64.wrap ((Go.bits .and .u64 (a0/2) 6148914691236517205)+(Go.bits .and .u64 a0 6148914691236517205))) 3689348814741910323))))) 1085102592571150095)+((Go.bits .and .u64 (IntKind.u64.wrap (((IntKind.u64.wrap ((Go.bits .and .u64 ((IntKind.u64.wrap ((Go.bits .and .u64 (a0/2) 6148914691236517205)+(Go.bits .and .u64 a0 6148914691236517205)))/4) 3689348814741910323)+(Go.bits .and .u64 (IntKind.u64.wrap ((Go.bits .and .u64 (a0/2) 6148914691236517205)+(Go.bits .and .u64 a0 6148914691236517205))) 3689348814741910323)))/16)+(IntKind.u64.wrap ((Go.bits .and .u64 ((IntKind.u64.wrap ((Go.bits .and .u64 (a0/2) 6148914691236517205)+(Go.bits .and .u64 a0 6148914691236517205)))/4) 3689348814741910323)+(Go.bits .and .u64 (IntKind.u64.wrap ((Go.bits .and .u64 (a0/2) 6148914691236517205)+(Go.bits .and .u64 a0 6148914691236517205))) 3689348814741910323))))) 1085102592571150095)/256)))+((IntKind.u64.wrap ((Go.bits .and .u64 (IntKind.u64.wrap (((IntKind.u64.wrap ((Go.bits .and .u64 ((IntKind.u64.wrap ((Go.bits .and .u64 (a0/2) 6148914691236517205)+(Go.bits .and .u64 a0 6148914691236517205)))/4) 3689348814741910323)+(Go.bits .and .u64 (IntKind.u64.wrap ((Go.bits .and .u64 (a0/2) 6148914691236517205)+(Go.bits .and .u64 a0 6148914691236517205))) 3689348814741910323)))/16)+(IntKind.u64.wrap ((Go.bits .and .u64 ((IntKind.u64.wrap ((Go.bits .and .u64 (a0/2) 6148914691236517205)+(Go.bits .and .u64 a0 6148914691236517205)))/4) 3689348814741910323)+(Go.bits .and .u64 (IntKind.u64.wrap ((Go.bits .and .u64 (a0/2) 6148914691236517205)+(Go.bits .and .u64 a0 6148914691236517205))) 3689348814741910323))))) 1085102592571150095)+((Go.bits .and .u64 (IntKind.u64.wrap (((IntKind.u64.wrap ((Go.bits .and .u64 ((IntKind.u64.wrap ((Go.bits .and .u64 (a0/2) 6148914691236517205)+(Go.bits .and .u64 a0 6148914691236517205)))/4) 3689348814741910323)+(Go.bits .and .u64 (IntKind.u64.wrap ((Go.bits .and .u64 (a0/2) 6148914691236517205)+(Go.bits .and .u64 a0 6148914691236517205))) 3689348814741910323)))/16)+(IntKind.u64.wrap ((Go.bits .and .u64 ((IntKind.u64.wrap ((Go.bits .and .u64 (a0/2) 6148914691236517205)+(Go.bits .and .u64 a0 6148914691236517205)))/4) 3689348814741910323)+(Go.bits .and .u64 (IntKind.u64.wrap ((Go.bits .and .u64 (a0/2) 6148914691236517205)+(Go.bits .and .u64 a0 6148914691236517205))) 3689348814741910323))))) 1085102592571150095)/256)))/65536)))/4294967296)))) 127)
set_option maxHeartbeats 8000000 in
set_option maxRecDepth 100000 in
theorem bits_OnesCount64.calls (a0:Int)(r:Int)(w:World)(h:bits_OnesCount64.f a0=some r) :
  Calls Tryz.prog 168 #[.int .u64 a0] w fun e w'=>e=.returned (.int .i64 r)/\Drawn0 w w':=by
 have H:(some (Go.bits .and .i64 (wrap64 (IntKind.u64.wrap ((IntKind.u64.wrap ((IntKind.u64.wrap ((Go.bits .and .u64 (IntKind.u64.wrap (((IntKind.u64.wrap ((Go.bits .and .u64 ((IntKind.u64.wrap ((Go.bits .and .u64 (a0/2) 6148914691236517205)+(Go.bits .and .u64 a0 6148914691236517205)))/4) 3689348814741910323)+(Go.bits .and .u64 (IntKind.u64.wrap ((Go.bits .and .u64 (a0/2) 6148914691236517205)+(Go.bits .and .u64 a0 6148914691236517205))) 3689348814741910323)))/16)+(IntKind.u64.wrap ((Go.bits .and .u64 ((IntKind.u64.wrap ((Go.bits .and .u64 (a0/2) 6148914691236517205)+(Go.bits .and .u64 a0 6148914691236517205)))/4) 3689348814741910323)+(Go.bits .and .u64 (IntKind.u64.wrap ((Go.bits .and .u64 (a0/2) 6148914691236517205)+(Go.bits .and .u64 a0 6148914691236517205))) 3689348814741910323))))) 1085102592571150095)+((Go.bits .and .u64 (IntKind.u64.wrap (((IntKind.u64.wrap ((Go.bits .and .u64 ((IntKind.u64.wrap ((Go.bits .and .u64 (a0/2) 6148914691236517205)+(Go.bits .and .u64 a0 6148914691236517205)))/4) 3689348814741910323)+(Go.bits .and .u64 (IntKind.u64.wrap ((Go.bits .and .u64 (a0/2) 6148914691236517205)+(Go.bits .and .u64 a0 6148914691236517205))) 3689348814741910323)))/16)+(IntKind.u64.wrap ((Go.bits .and .u64 ((IntKind.u64.wrap ((Go.bits .and .u64 (a0/2) 6148914691236517205)+(Go.bits .and .u64 a0 6148914691236517205)))/4) 3689348814741910323)+(Go.bits .and .u64 (IntKind.u64.wrap ((Go.bits .and .u64 (a0/2) 6148914691236517205)+(Go.bits .and .u64 a0 6148914691236517205))) 3689348814741910323))))) 1085102592571150095)/256)))+((IntKind.u64.wrap ((Go.bits .and .u64 (IntKind.u64.wrap (((IntKind.u64.wrap ((Go.bits .and .u64 ((IntKind.u64.wrap ((Go.bits .and .u64 (a0/2) 6148914691236517205)+(Go.bits .and .u64 a0 6148914691236517205)))/4) 3689348814741910323)+(Go.bits .and .u64 (IntKind.u64.wrap ((Go.bits .and .u64 (a0/2) 6148914691236517205)+(Go.bits .and .u64 a0 6148914691236517205))) 3689348814741910323)))/16)+(IntKind.u64.wrap ((Go.bits .and .u64 ((IntKind.u64.wrap ((Go.bits .and .u64 (a0/2) 6148914691236517205)+(Go.bits .and .u64 a0 6148914691236517205)))/4) 3689348814741910323)+(Go.bits .and .u64 (IntKind.u64.wrap ((Go.bits .and .u64 (a0/2) 6148914691236517205)+(Go.bits .and .u64 a0 6148914691236517205))) 3689348814741910323))))) 1085102592571150095)+((Go.bits .and .u64 (IntKind.u64.wrap (((IntKind.u64.wrap ((Go.bits .and .u64 ((IntKind.u64.wrap ((Go.bits .and .u64 (a0/2) 6148914691236517205)+(Go.bits .and .u64 a0 6148914691236517205)))/4) 3689348814741910323)+(Go.bits .and .u64 (IntKind.u64.wrap ((Go.bits .and .u64 (a0/2) 6148914691236517205)+(Go.bits .and .u64 a0 6148914691236517205))) 3689348814741910323)))/16)+(IntKind.u64.wrap ((Go.bits .and .u64 ((IntKind.u64.wrap ((Go.bits .and .u64 (a0/2) 6148914691236517205)+(Go.bits .and .u64 a0 6148914691236517205)))/4) 3689348814741910323)+(Go.bits .and .u64 (IntKind.u64.wrap ((Go.bits .and .u64 (a0/2) 6148914691236517205)+(Go.bits .and .u64 a0 6148914691236517205))) 3689348814741910323))))) 1085102592571150095)/256)))/65536)))+((IntKind.u64.wrap ((IntKind.u64.wrap ((Go.bits .and .u64 (IntKind.u64.wrap (((IntKind.u64.wrap ((Go.bits .and .u64 ((IntKind.u64.wrap ((Go.bits .and .u64 (a0/2) 6148914691236517205)+(Go.bits .and .u64 a0 6148914691236517205)))/4) 3689348814741910323)+(Go.bits .and .u64 (IntKind.u64.wrap ((Go.bits .and .u64 (a0/2) 6148914691236517205)+(Go.bits .and .u64 a0 6148914691236517205))) 3689348814741910323)))/16)+(IntKind.u64.wrap ((Go.bits .and .u64 ((IntKind.u64.wrap ((Go.bits .and .u64 (a0/2) 6148914691236517205)+(Go.bits .and .u64 a0 6148914691236517205)))/4) 3689348814741910323)+(Go.bits .and .u64 (IntKind.u64.wrap ((Go.bits .and .u64 (a0/2) 6148914691236517205)+(Go.bits .and .u64 a0 6148914691236517205))) 3689348814741910323))))) 1085102592571150095)+((Go.bits .and .u64 (IntKind.u64.wrap (((IntKind.u64.wrap ((Go.bits .and .u64 ((IntKind.u64.wrap ((Go.bits .and .u64 (a0/2) 6148914691236517205)+(Go.bits .and .u64 a0 6148914691236517205)))/4) 3689348814741910323)+(Go.bits .and .u64 (IntKind.u64.wrap ((Go.bits .and .u64 (a0/2) 6148914691236517205)+(Go.bits .and .u64 a0 6148914691236517205))) 3689348814741910323)))/16)+(IntKind.u64.wrap ((Go.bits .and .u64 ((IntKind.u64.wrap ((Go.bits .and .u64 (a0/2) 6148914691236517205)+(Go.bits .and .u64 a0 6148914691236517205)))/4) 3689348814741910323)+(Go.bits .and .u64 (IntKind.u64.wrap ((Go.bits .and .u64 (a0/2) 6148914691236517205)+(Go.bits .and .u64 a0 6148914691236517205))) 3689348814741910323))))) 1085102592571150095)/256)))+((IntKind.u64.wrap ((Go.bits .and .u64 (IntKind.u64.wrap (((IntKind.u64.wrap ((Go.bits .and .u64 ((IntKind.u64.wrap ((Go.bits .and .u64 (a0/2) 6148914691236517205)+(Go.bits .and .u64 a0 6148914691236517205)))/4) 3689348814741910323)+(Go.bits .and .u64 (IntKind.u64.wrap ((Go.bits .and .u64 (a0/2) 6148914691236517205)+(Go.bits .and .u64 a0 6148914691236517205))) 3689348814741910323)))/16)+(IntKind.u64.wrap ((Go.bits .and .u64 ((IntKind.u64.wrap ((Go.bits .and .u64 (a0/2) 6148914691236517205)+(Go.bits .and .u64 a0 6148914691236517205)))/4) 3689348814741910323)+(Go.bits .and .u64 (IntKind.u64.wrap ((Go.bits .and .u64 (a0/2) 6148914691236517205)+(Go.bits .and .u64 a0 6148914691236517205))) 3689348814741910323))))) 1085102592571150095)+((Go.bits .and .u64 (IntKind.u64.wrap (((IntKind.u64.wrap ((Go.bits .and .u64 ((IntKind.u64.wrap ((Go.bits .and .u64 (a0/2) 6148914691236517205)+(Go.bits .and .u64 a0 6148914691236517205)))/4) 3689348814741910323)+(Go.bits .and .u64 (IntKind.u64.wrap ((Go.bits .and .u64 (a0/2) 6148914691236517205)+(Go.bits .and .u64 a0 6148914691236517205))) 3689348814741910323)))/16)+(IntKind.u64.wrap ((Go.bits .and .u64 ((IntKind.u64.wrap ((Go.bits .and .u64 (a0/2) 6148914691236517205)+(Go.bits .and .u64 a0 6148914691236517205)))/4) 3689348814741910323)+(Go.bits .and .u64 (IntKind.u64.wrap ((Go.bits .and .u64 (a0/2) 6148914691236517205)+(Go.bits .and .u64 a0 6148914691236517205))) 3689348814741910323))))) 1085102592571150095)/256)))/65536)))/4294967296)))) 127))=some r:=h
 clear h
 obtain rfl:=Option.some.inj H
 go_enter Tryz.func168,Tryz.ntmps168
 go_wp2
 go_ret
 exact⟨by first | rfl | (simp;done) | (simp [*];done),by repeat (first | exact Drawn0.refl _ | apply Drawn0.step)⟩
def bits_OnesCount.f (a0:Int):Option (Int):=(bits_OnesCount64.f a0).bind fun t143=>(some t143)
set_option maxHeartbeats 8000000 in
set_option maxRecDepth 100000 in
theorem bits_OnesCount.calls (a0:Int)(r:Int)(w:World)(h:bits_OnesCount.f a0=some r) :
  Calls Tryz.prog 155 #[.int .u64 a0] w fun e w'=>e=.returned (.int .i64 r)/\Drawn0 w w':=by
 have H:((bits_OnesCount64.f a0).bind fun t143=>(some t143))=some r:=h
 clear h
 replace H:=Option.bind_eq_some_iff.mp H
 obtain⟨t143,A20,H⟩:=H
 replace H:(some t143)=some r:=H
 have A2:=Aside0.mk A20
 clear A20
 obtain rfl:=Option.some.inj H
 go_enter Tryz.func155,Tryz.ntmps155
 go_wp2_with (first | ((with_reducible refine gate_callee (f:=168) rfl ?_);refine goesL_ (some 7) rfl rfl Tryz.func168 (by kernel_rfl) rfl #[.int .u64 a0] rfl (by (try simp only [List.map_toArray,List.map_cons,List.map_nil]);first | done | rfl | (simp only [List.length_drop,List.length_take];rfl)) ?_;(with_reducible refine (bits_OnesCount64.calls a0 t143 _ A2.out).mono ?_);rintro e w' ⟨rfl,⟨nd,rfl⟩⟩;refine⟨_,rfl,?_⟩))
 go_ret
 exact⟨by first | rfl | (simp;done) | (simp [*];done),by repeat (first | exact Drawn0.refl _ | apply Drawn0.step)⟩
def decoder_FormatInformation_NumBitsDiffering.f (a0:Int)(a1:Int):Option (Int):=(bits_OnesCount.f (Go.bits .xor .u64 a0 a1)).bind fun t144=>(some t144)
set_option maxHeartbeats 8000000 in
set_option maxRecDepth 100000 in
theorem decoder_FormatInformation_NumBitsDiffering.calls (a0:Int)(a1:Int)(r:Int)(w:World)(h:decoder_FormatInformation_NumBitsDiffering.f a0 a1=some r) :
  Calls Tryz.prog 128 #[.int .u64 a0,.int .u64 a1] w fun e w'=>e=.returned (.int .i64 r)/\Drawn0 w w':=by
 have H:((bits_OnesCount.f (Go.bits .xor .u64 a0 a1)).bind fun t144=>(some t144))=some r:=h
 clear h
 replace H:=Option.bind_eq_some_iff.mp H
 obtain⟨t144,A30,H⟩:=H
 replace H:(some t144)=some r:=H
 have A3:=Aside0.mk A30
 clear A30
 obtain rfl:=Option.some.inj H
 go_enter Tryz.func128,Tryz.ntmps128
 go_wp2_with (first | ((with_reducible refine gate_callee (f:=155) rfl ?_);refine goesL_ (some 8) rfl rfl Tryz.func155 (by kernel_rfl) rfl #[.int .u64 (Go.bits .xor .u64 a0 a1)] rfl (by (try simp only [List.map_toArray,List.map_cons,List.map_nil]);first | done | rfl | (simp only [List.length_drop,List.length_take];rfl)) ?_;(with_reducible refine (bits_OnesCount.calls (Go.bits .xor .u64 a0 a1) t144 _ A3.out).mono ?_);rintro e w' ⟨rfl,⟨nd,rfl⟩⟩;refine⟨_,rfl,?_⟩))
 go_ret
 exact⟨by first | rfl | (simp;done) | (simp [*];done),by repeat (first | exact Drawn0.refl _ | apply Drawn0.step)⟩
def IsS154 (w0 W:World)(g:Nat)(f0:Int)(f1:List Int)(f2:List (S224))(f3:Int):Prop:=∃ A1 c1,∃ A2 c2,W.heap[g]? = some (.cells #[.int .i64 f0,.slice A1 f1.length c1,.slice A2 f2.length c2,.int .i64 f3] 154 (0,0))/\w0.heap.size<=g/\Kd.C (Kd.int .i64) w0 A1 f1.length f1/\Kd.C k224 w0 A2 f2.length f2
theorem IsS154.grown {w0 W:World}{g:Nat}{f0:Int}{f1:List Int}{f2:List (S224)}{f3:Int}{W1:World}{row:Option Nat}(h:IsS154 w0 W g f0 f1 f2 f3)(hw:W.grownBy W1 row)(hne:some g≠row):IsS154 w0 W1 g f0 f1 f2 f3:=by
 obtain⟨A1,c1,A2,c2,hb,hg,hr1,hr2⟩:=h
 exact⟨A1,c1,A2,c2,blk_grown hb hw hne,hg,hr1,hr2⟩
theorem IsS154.fresh {w0 W:World}{g:Nat}{f0:Int}{f1:List Int}{f2:List (S224)}{f3:Int}(h:IsS154 w0 W g f0 f1 f2 f3):∀ k,W.heap.size<=k->k≠g:=by
 obtain⟨A1,c1,A2,c2,hb,hg,hr1,hr2⟩:=h
 exact Kd.freshB hb
theorem IsS154.kept {w0 W:World}{g:Nat}{f0:Int}{f1:List Int}{f2:List (S224)}{f3:Int}{W1:World}{S:Nat->Prop}(h:IsS154 w0 W g f0 f1 f2 f3)(hk:Kept W W1 S)(hne:¬ S g):IsS154 w0 W1 g f0 f1 f2 f3:=by
 obtain⟨A1,c1,A2,c2,hb,hg,hr1,hr2⟩:=h
 exact⟨A1,c1,A2,c2,blk_kept hb hk hne,hg,hr1,hr2⟩
theorem IsS154.below {w0 W:World}{g:Nat}{f0:Int}{f1:List Int}{f2:List (S224)}{f3:Int}{W1:World}(h:IsS154 w0 W g f0 f1 f2 f3)(hw:Below W.heap.size W W1):IsS154 w0 W1 g f0 f1 f2 f3:=h.grown (grown_of_below hw none) (by simp)
theorem IsS154.alloc {w0 W:World}{g:Nat}{f0:Int}{f1:List Int}{f2:List (S224)}{f3:Int}(h:IsS154 w0 W g f0 f1 f2 f3)(o:Obj):IsS154 w0 (W.alloc o) g f0 f1 f2 f3:=h.below (below_alloc (Below.refl _ _) o)
theorem IsS154.drewN {w0 W:World}{g:Nat}{f0:Int}{f1:List Int}{f2:List (S224)}{f3:Int}(h:IsS154 w0 W g f0 f1 f2 f3)(m:Nat):IsS154 w0 (W.drewN m) g f0 f1 f2 f3:=h
theorem IsS154.drew {w0 W:World}{g:Nat}{f0:Int}{f1:List Int}{f2:List (S224)}{f3:Int}(h:IsS154 w0 W g f0 f1 f2 f3):IsS154 w0 W.drew g f0 f1 f2 f3:=h
theorem IsS154.at_ {w0 W:World}{g:Nat}{f0:Int}{f1:List Int}{f2:List (S224)}{f3:Int}{w':World}{m:Nat}(hq:W.drewN m=w')(h:IsS154 w0 W g f0 f1 f2 f3):IsS154 w0 w' g f0 f1 f2 f3:=by subst hq;exact IsS154.drewN h m
theorem IsS154.own_ne {w0 W:World}{g:Nat}{f0:Int}{f1:List Int}{f2:List (S224)}{f3:Int}{α:Type}{d:Kd α}{e:Nat}{base:Nat}{ok:Nat->Prop}{v:Value}{xs:List α}(h:IsS154 w0 W g f0 f1 f2 f3)(ho:d.R e W base ok v xs)(ht:e≠154):some g≠v.ownBlock:=by
 obtain⟨A1,c1,A2,c2,hb,hg,hr1,hr2⟩:=h
 exact Kd.R_ne ho hb ht
theorem IsS154.lt {w0 W:World}{g:Nat}{f0:Int}{f1:List Int}{f2:List (S224)}{f3:Int}(h:IsS154 w0 W g f0 f1 f2 f3):g<W.heap.size:=by
 obtain⟨A1,c1,A2,c2,hb,hg,hr1,hr2⟩:=h
 exact blk_lt hb
theorem IsS154.ge {w0 W:World}{g:Nat}{f0:Int}{f1:List Int}{f2:List (S224)}{f3:Int}(h:IsS154 w0 W g f0 f1 f2 f3):w0.heap.size<=g:=by
 obtain⟨A1,c1,A2,c2,hb,hg,hr1,hr2⟩:=h
 exact hg
theorem IsS154.far {w0 W:World}{g:Nat}{f0:Int}{f1:List Int}{f2:List (S224)}{f3:Int}{p:Addr}(h:IsS154 w0 W g f0 f1 f2 f3)(hne:g≠p.block)(u:Value):IsS154 w0 (W.setCell p u) g f0 f1 f2 f3:=by
 obtain⟨A1,c1,A2,c2,hb,hg,hr1,hr2⟩:=h
 exact⟨A1,c1,A2,c2,blk_far hb hne u,hg,hr1,hr2⟩
def decoder_VERSION_DECODE_INFO.f :Option (List Int):=some (([31892,34236,39577,42195,48118,51042,55367,58893,63784,68472,70749,76311,79154,84390,87683,92361,96236,102084,102881,110507,110734,117786,119615,126325,127568,133589,136944,141498,145311,150283,152622,158308,161089,167017]:List Int))
set_option maxHeartbeats 8000000 in
set_option maxRecDepth 100000 in
theorem decoder_VERSION_DECODE_INFO.calls  (r:List Int)(w:World)(h:decoder_VERSION_DECODE_INFO.f =some r) :
  Calls Tryz.prog 127 #[] w fun e w'=>∃ v0_:Value,e=.returned (v0_)/\Kd.R (Kd.int .i64) 3 w' w.heap.size (fun _=>True) v0_ r/\Below w.heap.size w w':=by
 have HB:=Aside0.mk (Below.refl w.heap.size w)
 have H:(some (([31892,34236,39577,42195,48118,51042,55367,58893,63784,68472,70749,76311,79154,84390,87683,92361,96236,102084,102881,110507,110734,117786,119615,126325,127568,133589,136944,141498,145311,150283,152622,158308,161089,167017]:List Int)))=some r:=h
 clear h
 obtain⟨y140,hy140⟩:∃ y_:List Int,y_=(([31892,34236,39577,42195,48118,51042,55367,58893,63784,68472,70749,76311,79154,84390,87683,92361,96236,102084,102881,110507,110734,117786,119615,126325,127568,133589,136944,141498,145311,150283,152622,158308,161089,167017]:List Int)):=⟨_,rfl⟩
 replace H:(some y140)=some r:=by first | (rw [hy140];with_reducible exact H) | (have H2_:=(Option.bind_some _ _).symm.trans H;rw [hy140];with_reducible exact H2_) | (have H2_:=(Option.bind_some _ _).symm.trans H;with_reducible exact H2_) | with_reducible exact H | (rw [hy140];exact H) | exact H
 have Ny140:=Aside0.mk hy140
 clear hy140
 obtain rfl:=Option.some.inj H
 go_enter Tryz.func127,Tryz.ntmps127
 go_wp2_with (first | ((with_reducible refine gate_dst (N:=1) rfl ?_);refine Kd.R_lit (Kd.int .i64) _ 3 ?hg (N:=1) ?hd (xs:=([31892,34236,39577,42195,48118,51042,55367,58893,63784,68472,70749,76311,79154,84390,87683,92361,96236,102084,102881,110507,110734,117786,119615,126325,127568,133589,136944,141498,145311,150283,152622,158308,161089,167017]:List Int)) (inner:=[.int .i64 31892,.int .i64 34236,.int .i64 39577,.int .i64 42195,.int .i64 48118,.int .i64 51042,.int .i64 55367,.int .i64 58893,.int .i64 63784,.int .i64 68472,.int .i64 70749,.int .i64 76311,.int .i64 79154,.int .i64 84390,.int .i64 87683,.int .i64 92361,.int .i64 96236,.int .i64 102084,.int .i64 102881,.int .i64 110507,.int .i64 110734,.int .i64 117786,.int .i64 119615,.int .i64 126325,.int .i64 127568,.int .i64 133589,.int .i64 136944,.int .i64 141498,.int .i64 145311,.int .i64 150283,.int .i64 152622,.int .i64 158308,.int .i64 161089,.int .i64 167017]) (ok:=fun _=>True) (okp:=fun _=>True) ?hr ?hp (fun _ hk=>hk) trivial (Below.refl _ _) (Nat.le_refl _) (by simp) ?_;(case hd=>rfl);(case hg=>rfl);(case hr=>first | (go_simp;done) | (go_simp;rfl));(case hp=>exact (Reps.one (show Kd.M (Kd.int .i64) _ _ _ 31892 [.int .i64 31892] from rfl) (Reps.one (show Kd.M (Kd.int .i64) _ _ _ 34236 [.int .i64 34236] from rfl) (Reps.one (show Kd.M (Kd.int .i64) _ _ _ 39577 [.int .i64 39577] from rfl) (Reps.one (show Kd.M (Kd.int .i64) _ _ _ 42195 [.int .i64 42195] from rfl) (Reps.one (show Kd.M (Kd.int .i64) _ _ _ 48118 [.int .i64 48118] from rfl) (Reps.one (show Kd.M (Kd.int .i64) _ _ _ 51042 [.int .i64 51042] from rfl) (Reps.one (show Kd.M (Kd.int .i64) _ _ _ 55367 [.int .i64 55367] from rfl) (Reps.one (show Kd.M (Kd.int .i64) _ _ _ 58893 [.int .i64 58893] from rfl) (Reps.one (show Kd.M (Kd.int .i64) _ _ _ 63784 [.int .i64 63784] from rfl) (Reps.one (show Kd.M (Kd.int .i64) _ _ _ 68472 [.int .i64 68472] from rfl) (Reps.one (show Kd.M (Kd.int .i64) _ _ _ 70749 [.int .i64 70749] from rfl) (Reps.one (show Kd.M (Kd.int .i64) _ _ _ 76311 [.int .i64 76311] from rfl) (Reps.one (show Kd.M (Kd.int .i64) _ _ _ 79154 [.int .i64 79154] from rfl) (Reps.one (show Kd.M (Kd.int .i64) _ _ _ 84390 [.int .i64 84390] from rfl) (Reps.one (show Kd.M (Kd.int .i64) _ _ _ 87683 [.int .i64 87683] from rfl) (Reps.one (show Kd.M (Kd.int .i64) _ _ _ 92361 [.int .i64 92361] from rfl) (Reps.one (show Kd.M (Kd.int .i64) _ _ _ 96236 [.int .i64 96236] from rfl) (Reps.one (show Kd.M (Kd.int .i64) _ _ _ 102084 [.int .i64 102084] from rfl) (Reps.one (show Kd.M (Kd.int .i64) _ _ _ 102881 [.int .i64 102881] from rfl) (Reps.one (show Kd.M (Kd.int .i64) _ _ _ 110507 [.int .i64 110507] from rfl) (Reps.one (show Kd.M (Kd.int .i64) _ _ _ 110734 [.int .i64 110734] from rfl) (Reps.one (show Kd.M (Kd.int .i64) _ _ _ 117786 [.int .i64 117786] from rfl) (Reps.one (show Kd.M (Kd.int .i64) _ _ _ 119615 [.int .i64 119615] from rfl) (Reps.one (show Kd.M (Kd.int .i64) _ _ _ 126325 [.int .i64 126325] from rfl) (Reps.one (show Kd.M (Kd.int .i64) _ _ _ 127568 [.int .i64 127568] from rfl) (Reps.one (show Kd.M (Kd.int .i64) _ _ _ 133589 [.int .i64 133589] from rfl) (Reps.one (show Kd.M (Kd.int .i64) _ _ _ 136944 [.int .i64 136944] from rfl) (Reps.one (show Kd.M (Kd.int .i64) _ _ _ 141498 [.int .i64 141498] from rfl) (Reps.one (show Kd.M (Kd.int .i64) _ _ _ 145311 [.int .i64 145311] from rfl) (Reps.one (show Kd.M (Kd.int .i64) _ _ _ 150283 [.int .i64 150283] from rfl) (Reps.one (show Kd.M (Kd.int .i64) _ _ _ 152622 [.int .i64 152622] from rfl) (Reps.one (show Kd.M (Kd.int .i64) _ _ _ 158308 [.int .i64 158308] from rfl) (Reps.one (show Kd.M (Kd.int .i64) _ _ _ 161089 [.int .i64 161089] from rfl) (Reps.one (show Kd.M (Kd.int .i64) _ _ _ 167017 [.int .i64 167017] from rfl) (Reps.none _ _))))))))))))))))))))))))))))))))))));intro v141 w1 ho2 hb hg_ hnew_;clear hg_ hnew_;(first | rw [<- Ny140.out] at ho2 | (simp only [Int.reduceToNat] at ho2;rw [<- Ny140.out] at ho2));have n0_:=Aside0.mk (Kd.R_lower ho2 (below_size (by repeat (first | (with_reducible first | exact HB.out | apply below_alloc | apply pw_below_drewN | apply below_drew1) | exact HB.out))));have n1_:=Aside0.mk (below_step (by repeat (first | (with_reducible first | exact HB.out | apply below_alloc | apply pw_below_drewN | apply below_drew1) | exact HB.out)) hb);clear HB;have HO142:=n0_;have HB:=n1_;clear n0_ n1_;clear hb ho2))
 go_ret
 exact⟨_,by first | rfl | (simp [errW_none,errW_some]<;>rfl) | (simp [*,errW_none,errW_some]<;>rfl),by (with_reducible repeat (first | apply Kd.R_alloc | apply Kd.R_drewN | apply Kd.R_drew));exact HO142.out,by repeat (first | (with_reducible first | exact HB.out | apply below_alloc | apply pw_below_drewN | apply below_drew1) | exact HB.out)⟩
def spec_QRDimension.f (a0:Int):Option (Int):=some (wrap64 (17+(wrap64 (4*a0))))
set_option maxHeartbeats 8000000 in
set_option maxRecDepth 100000 in
theorem spec_QRDimension.calls (a0:Int)(r:Int)(w:World)(h:spec_QRDimension.f a0=some r) :
  Calls Tryz.prog 46 #[.int .i64 a0] w fun e w'=>e=.returned (.int .i64 r)/\Drawn0 w w':=by
 have H:(some (wrap64 (17+(wrap64 (4*a0)))))=some r:=h
 clear h
 obtain rfl:=Option.some.inj H
 go_enter Tryz.func46,Tryz.ntmps46
 go_wp2
 go_ret
 exact⟨by first | rfl | (simp;done) | (simp [*];done),by repeat (first | exact Drawn0.refl _ | apply Drawn0.step)⟩
def spec_qrFar.f (a0:Int)(a1:Int)(a2:Int)(a3:Int):Option (Int):=some (mx (mx (wrap64 (a0-a2)) (wrap64 (a2-a0))) (mx (wrap64 (a1-a3)) (wrap64 (a3-a1))))
set_option maxHeartbeats 8000000 in
set_option maxRecDepth 100000 in
theorem spec_qrFar.calls (a0:Int)(a1:Int)(a2:Int)(a3:Int)(r:Int)(w:World)(h:spec_qrFar.f a0 a1 a2 a3=some r) :
  Calls Tryz.prog 98 #[.int .i64 a0,.int .i64 a1,.int .i64 a2,.int .i64 a3] w fun e w'=>e=.returned (.int .i64 r)/\Below w.heap.size w w':=by
 have HB:=Aside0.mk (Below.refl w.heap.size w)
 have H:(some (mx (mx (wrap64 (a0-a2)) (wrap64 (a2-a0))) (mx (wrap64 (a1-a3)) (wrap64 (a3-a1)))))=some r:=h
 clear h
 obtain⟨ji5,hji5⟩:∃ j_:Int,(mx (wrap64 (a0-a2)) (wrap64 (a2-a0)))=j_:=⟨_,rfl⟩
 replace H:(some (mx (ji5) (mx (wrap64 (a1-a3)) (wrap64 (a3-a1)))))=some r:=by first | (rw [hji5] at H;exact H) | (simp only [hji5] at H ⊢;exact H)
 have hji5_:(if (wrap64 (a0-a2))<(wrap64 (a2-a0)) then (wrap64 (a2-a0)) else (wrap64 (a0-a2)))=ji5:=hji5
 obtain⟨ji6,hji6⟩:∃ j_:Int,(mx (wrap64 (a1-a3)) (wrap64 (a3-a1)))=j_:=⟨_,rfl⟩
 replace H:(some (mx (ji5) (ji6)))=some r:=by first | (rw [hji6] at H;exact H) | (simp only [hji6] at H ⊢;exact H)
 have hji6_:(if (wrap64 (a1-a3))<(wrap64 (a3-a1)) then (wrap64 (a3-a1)) else (wrap64 (a1-a3)))=ji6:=hji6
 obtain⟨ji7,hji7⟩:∃ j_:Int,(mx (ji5) (ji6))=j_:=⟨_,rfl⟩
 replace H:(some ji7)=some r:=by first | (rw [hji7] at H;exact H) | (simp only [hji7] at H ⊢;exact H)
 have hji7_:(if (ji5)<(ji6) then (ji6) else (ji5))=ji7:=hji7
 obtain rfl:=Option.some.inj H
 go_enter Tryz.func98,Tryz.ntmps98
 go_wp2
 go_ret
 exact⟨by first | rfl | (simp [errW_none,errW_some]<;>rfl) | (simp only [<- hji5,<- hji6,<- hji7];first | rfl | (simp [errW_none,errW_some]<;>rfl)) | (simp [*,errW_none,errW_some]<;>rfl),by repeat (first | (with_reducible first | exact HB.out | apply below_alloc | apply pw_below_drewN | apply below_drew1) | exact HB.out)⟩
def spec_qrRest.l0:Nat->Int->Int->Int->Int->Option (Int)
 | 0,_,_,_,_=>none
 | k+1,x0,x1,x2,x7=>if x7≥(wrap64 (x2-1)) then (if 0<=x7 then (if (Go.bits .and .i64 (shr .i64 x0 x7) 1)=1 then (if 0<=(wrap64 ((wrap64 (x7-x2))+1)) then (spec_qrRest.l0 k (Go.bits .xor .i64 x0 (shl .i64 x1 (wrap64 ((wrap64 (x7-x2))+1)))) x1 x2 (wrap64 (x7-1))) else (none)) else (spec_qrRest.l0 k x0 x1 x2 (wrap64 (x7-1)))) else (none)) else (some x0)
def spec_qrRest.f (k:Nat)(a0:Int)(a1:Int)(a2:Int):Option (Int):=spec_qrRest.l0 k a0 a1 a2 17
theorem spec_qrRest.mono_l:∀ k,(∀ y0 y1 y2 y3,LeO (spec_qrRest.l0 k y0 y1 y2 y3) (spec_qrRest.l0 (k+1) y0 y1 y2 y3))
 | 0=>fun _ _ _ _ r h=>by simp [spec_qrRest.l0] at h
 | k+1=>by
  have ih0:=spec_qrRest.mono_l k
  ·intro y0 y1 y2 y3
   unfold spec_qrRest.l0
   repeat' first
   | (with_reducible exact ih0 _ _ _ _)
   | (with_reducible exact LeO.refl _)
   | (with_reducible exact LeO.none _)
   | (with_reducible refine LeO.ite ?_ ?_)
   | (with_reducible refine LeO.bind ?_ (fun _=>?_))
   | exact ih0 _ _ _ _
   | exact LeO.none _
   | refine LeO.ite ?_ ?_
   | refine LeO.bind ?_ (fun _=>?_)
theorem spec_qrRest.mono:∀ a0 a1 a2 k,LeO (spec_qrRest.f k a0 a1 a2) (spec_qrRest.f (k+1) a0 a1 a2):=by
 intro a0 a1 a2 k
 have ih0:=spec_qrRest.mono_l k
 unfold spec_qrRest.f
 repeat' first
   | (with_reducible exact ih0 _ _ _ _)
   | (with_reducible exact LeO.refl _)
   | (with_reducible exact LeO.none _)
   | (with_reducible refine LeO.ite ?_ ?_)
   | (with_reducible refine LeO.bind ?_ (fun _=>?_))
   | exact ih0 _ _ _ _
   | exact LeO.none _
   | refine LeO.ite ?_ ?_
   | refine LeO.bind ?_ (fun _=>?_)
set_option maxHeartbeats 8000000 in
set_option maxRecDepth 100000 in
theorem spec_qrRest.calls (k:Nat)(a0:Int)(a1:Int)(a2:Int)(r:Int)(w:World)(h:spec_qrRest.f k a0 a1 a2=some r) :
  Calls Tryz.prog 95 #[.int .i64 a0,.int .i64 a1,.int .i64 a2] w fun e w'=>e=.returned (.int .i64 r)/\Drawn0 w w':=by
 have H:(spec_qrRest.l0 k a0 a1 a2 17)=some r:=h
 clear h
 have H':=Aside0.mk H
 clear H
 go_enter Tryz.func95,Tryz.ntmps95
 go_wp2
 go_loopg [0,7] k (fun kq v0 v7 w'=>∃ (x0_1:Int) (x7_1:Int),v0=.int .i64 x0_1/\v7=.int .i64 x7_1/\Aside0 (spec_qrRest.l0 kq x0_1 a1 a2 x7_1=some r)/\Aside0 (kq<=k)/\Drawn0 w w')
 case atStart=>exact⟨(a0),(17),(by first | rfl | (simp;done) | (simp [*];done)),(by first | rfl | (simp;done) | (simp [*];done)),H',⟨Nat.le_refl _⟩,by repeat (first | exact Drawn0.refl _ | apply Drawn0.step)⟩
 case round=>
  clear H'
  try clear p2
  obtain⟨x0_1,x7_1,rfl,rfl,HA,HK1,⟨m1,rfl⟩⟩:=hrel
  cases gk with
  | zero=>exact absurd HA.out (by simp [spec_qrRest.l0])
  | succ k1=>
   have H:=HA.out
   clear HA
   simp only [spec_qrRest.l0] at H
   by_cases c4:x7_1≥(wrap64 (a2-1))
   ·rw [if_pos c4] at H
    have c4b0:decide ((wrap64 (a2-1))<=x7_1)=true:=decide_eq_true c4
    clear c4
    by_cases c5:0<=x7_1
    ·rw [if_pos c5] at H
     have c5b0:=eq_true c5
     have c5b1:decide (0<=x7_1)=true:=decide_eq_true c5
     clear c5
     obtain⟨ji6,hji6⟩:∃ j_:Int,(shr .i64 x0_1 x7_1)=j_:=⟨_,rfl⟩
     replace H:(if (Go.bits .and .i64 (ji6) 1)=1 then (if 0<=(wrap64 ((wrap64 (x7_1-a2))+1)) then (spec_qrRest.l0 k1 (Go.bits .xor .i64 x0_1 (shl .i64 a1 (wrap64 ((wrap64 (x7_1-a2))+1)))) a1 a2 (wrap64 (x7_1-1))) else (none)) else (spec_qrRest.l0 k1 x0_1 a1 a2 (wrap64 (x7_1-1))))=some r:=by first | (rw [hji6] at H;exact H) | (simp only [hji6] at H ⊢;exact H)
     have hji6_:(x0_1/2 ^ min x7_1.toNat 64)=ji6:=hji6
     have hji6z:x7_1<=64->(x0_1/2 ^ x7_1.toNat)=ji6:=shr_small hji6
     by_cases c7:(Go.bits .and .i64 (ji6) 1)=1
     ·rw [if_pos c7] at H
      have c7b0:((Go.bits .and .i64 (ji6) 1)==1)=true:=beq_iff_eq.mpr c7
      have c7b1:((Go.bits .and .i64 (ji6) 1) != 1)=false:=bne_eq_false_iff_eq.mpr c7
      clear c7
      obtain⟨ji8,hji8⟩:∃ j_:Int,(wrap64 ((wrap64 (x7_1-a2))+1))=j_:=⟨_,rfl⟩
      replace H:(if 0<=(ji8) then (spec_qrRest.l0 k1 (Go.bits .xor .i64 x0_1 (shl .i64 a1 (ji8))) a1 a2 (wrap64 (x7_1-1))) else (none))=some r:=by first | (rw [hji8] at H;exact H) | (simp only [hji8] at H ⊢;exact H)
      have hji8w:(IntKind.i64.wrap ((wrap64 (x7_1-a2))+1))=ji8:=(i64_w _).trans hji8
      by_cases c9:0<=(ji8)
      ·rw [if_pos c9] at H
       have c9b0:=eq_true c9
       have c9b1:decide (0<=(ji8))=true:=decide_eq_true c9
       clear c9
       obtain⟨ji10,hji10⟩:∃ j_:Int,(shl .i64 a1 (ji8))=j_:=⟨_,rfl⟩
       replace H:(spec_qrRest.l0 k1 (Go.bits .xor .i64 x0_1 (ji10)) a1 a2 (wrap64 (x7_1-1)))=some r:=by first | (rw [hji10] at H;exact H) | (simp only [hji10] at H ⊢;exact H)
       have hji10_:(IntKind.i64.wrap (a1*2 ^ min (ji8).toNat 64))=ji10:=hji10
       have hji10z:(ji8)<=64->(IntKind.i64.wrap (a1*2 ^ (ji8).toNat))=ji10:=shl_small hji10
       have hji10y:(wrap64 (a1*2 ^ min (ji8).toNat 64))=ji10:=(i64_w _).symm.trans hji10_
       have hji10x:(ji8)<=64->(wrap64 (a1*2 ^ (ji8).toNat))=ji10:=fun h_=>(i64_w _).symm.trans (hji10z h_)
       have H':=Aside0.mk H
       clear H
       go_wp2
       go_roundg k1
       case measure=>have:=HK1.out;omega
       case rel=>exact⟨(Go.bits .xor .i64 x0_1 (ji10)),(wrap64 (x7_1-1)),(by first | rfl | (simp;done) | (simp only [<- hji10]<;>(first | rfl | simp)) | (simp [*];done)),(by first | rfl | (simp;done) | (simp [*];done)),H',⟨by have:=HK1.out;omega⟩,by repeat (first | exact Drawn0.refl _ | apply Drawn0.step)⟩
      ·rw [if_neg c9] at H
       exact absurd H (by simp)
     ·rw [if_neg c7] at H
      have c7b0:((Go.bits .and .i64 (ji6) 1)==1)=false:=beq_eq_false_iff_ne.mpr c7
      have c7b1:((Go.bits .and .i64 (ji6) 1) != 1)=true:=bne_iff_ne.mpr c7
      have H':=Aside0.mk H
      clear H
      go_wp2
      go_roundg k1
      case measure=>have:=HK1.out;omega
      case rel=>exact⟨(x0_1),(wrap64 (x7_1-1)),(by first | rfl | (simp;done) | (simp [*];done)),(by first | rfl | (simp;done) | (simp [*];done)),H',⟨by have:=HK1.out;omega⟩,by repeat (first | exact Drawn0.refl _ | apply Drawn0.step)⟩
    ·rw [if_neg c5] at H
     exact absurd H (by simp)
   ·rw [if_neg c4] at H
    have c4b0:decide ((wrap64 (a2-1))<=x7_1)=false:=decide_eq_false c4
    clear c4
    obtain rfl:=Option.some.inj H
    go_wp2
    go_ret
    exact⟨by first | rfl | (simp;done) | (simp [*];done),by repeat (first | exact Drawn0.refl _ | apply Drawn0.step)⟩
def spec_QRVersionBits.f (k:Nat)(a0:Int):Option (Int):=(spec_qrRest.f k (wrap64 (a0*4096)) 7973 13).bind fun t310=>(some (Go.bits .or .i64 (wrap64 (a0*4096)) t310))
theorem spec_QRVersionBits.mono:∀ a0 k,LeO (spec_QRVersionBits.f k a0) (spec_QRVersionBits.f (k+1) a0):=by
 intro a0 k
 unfold spec_QRVersionBits.f
 repeat' first
   | (with_reducible exact spec_qrRest.mono _ _ _ _)
   | (with_reducible exact LeO.refl _)
   | (with_reducible exact LeO.none _)
   | (with_reducible refine LeO.ite ?_ ?_)
   | (with_reducible refine LeO.bind ?_ (fun _=>?_))
   | exact spec_qrRest.mono _ _ _ _
   | exact LeO.none _
   | refine LeO.ite ?_ ?_
   | refine LeO.bind ?_ (fun _=>?_)
set_option maxHeartbeats 8000000 in
set_option maxRecDepth 100000 in
theorem spec_QRVersionBits.calls (k:Nat)(a0:Int)(r:Int)(w:World)(h:spec_QRVersionBits.f k a0=some r) :
  Calls Tryz.prog 99 #[.int .i64 a0] w fun e w'=>e=.returned (.int .i64 r)/\Drawn0 w w':=by
 have H:((spec_qrRest.f k (wrap64 (a0*4096)) 7973 13).bind fun t310=>(some (Go.bits .or .i64 (wrap64 (a0*4096)) t310)))=some r:=h
 clear h
 replace H:=Option.bind_eq_some_iff.mp H
 obtain⟨t310,A20,H⟩:=H
 replace H:(some (Go.bits .or .i64 (wrap64 (a0*4096)) t310))=some r:=H
 have A2:=Aside0.mk A20
 clear A20
 obtain rfl:=Option.some.inj H
 go_enter Tryz.func99,Tryz.ntmps99
 go_wp2_with (first | ((with_reducible refine gate_callee (f:=95) rfl ?_);refine goesL_ (some 7) rfl rfl Tryz.func95 (by kernel_rfl) rfl #[.int .i64 (wrap64 (a0*4096)),.int .i64 7973,.int .i64 13] rfl (by (try simp only [List.map_toArray,List.map_cons,List.map_nil]);first | done | rfl | (simp only [List.length_drop,List.length_take];rfl)) ?_;(with_reducible refine (spec_qrRest.calls k (wrap64 (a0*4096)) 7973 13 t310 _ A2.out).mono ?_);rintro e w' ⟨rfl,⟨nd,rfl⟩⟩;refine⟨_,rfl,?_⟩))
 go_ret
 exact⟨by first | rfl | (simp;done) | (simp [*];done),by repeat (first | exact Drawn0.refl _ | apply Drawn0.step)⟩
def spec_QRFormatBits.f (k:Nat)(a0:Int)(a1:Int):Option (Int):=(spec_qrRest.f k (wrap64 ((Go.bits .or .i64 (wrap64 (a0*8)) a1)*1024)) 1335 11).bind fun t294=>(some (Go.bits .xor .i64 (Go.bits .or .i64 (wrap64 ((Go.bits .or .i64 (wrap64 (a0*8)) a1)*1024)) t294) 21522))
theorem spec_QRFormatBits.mono:∀ a0 a1 k,LeO (spec_QRFormatBits.f k a0 a1) (spec_QRFormatBits.f (k+1) a0 a1):=by
 intro a0 a1 k
 unfold spec_QRFormatBits.f
 repeat' first
   | (with_reducible exact spec_qrRest.mono _ _ _ _)
   | (with_reducible exact LeO.refl _)
   | (with_reducible exact LeO.none _)
   | (with_reducible refine LeO.ite ?_ ?_)
   | (with_reducible refine LeO.bind ?_ (fun _=>?_))
   | exact spec_qrRest.mono _ _ _ _
   | exact LeO.none _
   | refine LeO.ite ?_ ?_
   | refine LeO.bind ?_ (fun _=>?_)
set_option maxHeartbeats 8000000 in
set_option maxRecDepth 100000 in
theorem spec_QRFormatBits.calls (k:Nat)(a0:Int)(a1:Int)(r:Int)(w:World)(h:spec_QRFormatBits.f k a0 a1=some r) :
  Calls Tryz.prog 47 #[.int .i64 a0,.int .i64 a1] w fun e w'=>e=.returned (.int .i64 r)/\Drawn0 w w':=by
 have H:((spec_qrRest.f k (wrap64 ((Go.bits .or .i64 (wrap64 (a0*8)) a1)*1024)) 1335 11).bind fun t294=>(some (Go.bits .xor .i64 (Go.bits .or .i64 (wrap64 ((Go.bits .or .i64 (wrap64 (a0*8)) a1)*1024)) t294) 21522)))=some r:=h
 clear h
 replace H:=Option.bind_eq_some_iff.mp H
 obtain⟨t294,A30,H⟩:=H
 replace H:(some (Go.bits .xor .i64 (Go.bits .or .i64 (wrap64 ((Go.bits .or .i64 (wrap64 (a0*8)) a1)*1024)) t294) 21522))=some r:=H
 have A3:=Aside0.mk A30
 clear A30
 obtain rfl:=Option.some.inj H
 go_enter Tryz.func47,Tryz.ntmps47
 go_wp2_with (first | ((with_reducible refine gate_callee (f:=95) rfl ?_);refine goesL_ (some 14) rfl rfl Tryz.func95 (by kernel_rfl) rfl #[.int .i64 (wrap64 ((Go.bits .or .i64 (wrap64 (a0*8)) a1)*1024)),.int .i64 1335,.int .i64 11] rfl (by (try simp only [List.map_toArray,List.map_cons,List.map_nil]);first | done | rfl | (simp only [List.length_drop,List.length_take];rfl)) ?_;(with_reducible refine (spec_qrRest.calls k (wrap64 ((Go.bits .or .i64 (wrap64 (a0*8)) a1)*1024)) 1335 11 t294 _ A3.out).mono ?_);rintro e w' ⟨rfl,⟨nd,rfl⟩⟩;refine⟨_,rfl,?_⟩))
 go_ret
 exact⟨by first | rfl | (simp;done) | (simp [*];done),by repeat (first | exact Drawn0.refl _ | apply Drawn0.step)⟩
end Go.Proofs.YtgccjgpdjkhpdaaGreat.F
namespace Go.Proofs.YtgccjgpdjkhpdaaGreat.F
open Go.RowKit Go.Proofs.YtgccjgpdjkhpdaaGreatW.PrintWords Go.Proofs.YtgccjgpdjkhpdaaGreatW.PrintLast Go.Proofs.YtgccjgpdjkhpdaaGreatW.PrintMore
attribute [local go_sem] max2_int min2_int max_two min_two max_three min_three max_four min_four
set_option linter.unusedVariables false
set_option linter.unusedSimpArgs false
mutual
def spec_QRCenters.j0:Nat->Int->Int->Int->Option (List Int)
 | 0,_,_,_=>none
 | k+1,x0,x3,x4=>if 0<=x3 then (if (x3:Int).toNat<=35184372088832 then ((some (List.replicate (x3:Int).toNat 0:List Int)).bind fun y295=>(if 0<(y295.length:Int) then (spec_QRCenters.l0 k x0 x3 x4 (y295.set (0:Int).toNat 6) 1) else (none))) else (none)) else (none)
def spec_QRCenters.l0:Nat->Int->Int->Int->List Int->Int->Option (List Int)
 | 0,_,_,_,_,_=>none
 | k+1,x0,x3,x4,x5,x6=>if x6<x3 then ((spec_QRDimension.f x0).bind fun t299=>(if 0<=x6 then (if x6<(x5.length:Int) then (spec_QRCenters.l0 k x0 x3 x4 (x5.set (x6:Int).toNat (wrap64 ((wrap64 (t299-7))-(wrap64 (x4*(wrap64 ((wrap64 (x3-1))-x6))))))) (wrap64 (x6+1))) else (none)) else (none))) else (some x5)
end
def spec_QRCenters.f (k:Nat)(a0:Int):Option (List Int):=if a0=1 then (some ([]:List Int)) else (if (wrap64 ((wrap64 ((wrap64 ((wrap64 (Int.tdiv a0 7))+2))*2))-2))=0 then (none) else (if a0=32 then (spec_QRCenters.j0 k a0 (wrap64 ((wrap64 (Int.tdiv a0 7))+2)) 26) else (spec_QRCenters.j0 k a0 (wrap64 ((wrap64 (Int.tdiv a0 7))+2)) (wrap64 ((wrap64 (Int.tdiv (wrap64 ((wrap64 ((wrap64 (a0*4))+(wrap64 ((wrap64 ((wrap64 (Int.tdiv a0 7))+2))*2))))+1)) (wrap64 ((wrap64 ((wrap64 ((wrap64 (Int.tdiv a0 7))+2))*2))-2))))*2)))))
theorem spec_QRCenters.mono_l:∀ k,(∀ y0 y1 y2,LeO (spec_QRCenters.j0 k y0 y1 y2) (spec_QRCenters.j0 (k+1) y0 y1 y2))/\(∀ y0 y1 y2 y3 y4,LeO (spec_QRCenters.l0 k y0 y1 y2 y3 y4) (spec_QRCenters.l0 (k+1) y0 y1 y2 y3 y4))
 | 0=>⟨fun _ _ _ r h=>by simp [spec_QRCenters.j0] at h,fun _ _ _ _ _ r h=>by simp [spec_QRCenters.l0] at h⟩
 | k+1=>by
  obtain⟨ih0,ih1⟩:=spec_QRCenters.mono_l k
  refine⟨?_,?_⟩
  ·intro y0 y1 y2
   unfold spec_QRCenters.j0
   repeat' first
   | (with_reducible exact ih0 _ _ _)
   | (with_reducible exact ih1 _ _ _ _ _)
   | (with_reducible exact LeO.refl _)
   | (with_reducible exact LeO.none _)
   | (with_reducible refine LeO.ite ?_ ?_)
   | (with_reducible refine LeO.bind ?_ (fun _=>?_))
   | exact ih0 _ _ _
   | exact ih1 _ _ _ _ _
   | exact LeO.none _
   | refine LeO.ite ?_ ?_
   | refine LeO.bind ?_ (fun _=>?_)
  ·intro y0 y1 y2 y3 y4
   unfold spec_QRCenters.l0
   repeat' first
   | (with_reducible exact ih0 _ _ _)
   | (with_reducible exact ih1 _ _ _ _ _)
   | (with_reducible exact LeO.refl _)
   | (with_reducible exact LeO.none _)
   | (with_reducible refine LeO.ite ?_ ?_)
   | (with_reducible refine LeO.bind ?_ (fun _=>?_))
   | exact ih0 _ _ _
   | exact ih1 _ _ _ _ _
   | exact LeO.none _
   | refine LeO.ite ?_ ?_
   | refine LeO.bind ?_ (fun _=>?_)
theorem spec_QRCenters.mono:∀ a0 k,LeO (spec_QRCenters.f k a0) (spec_QRCenters.f (k+1) a0):=by
 intro a0 k
 obtain⟨ih0,ih1⟩:=spec_QRCenters.mono_l k
 unfold spec_QRCenters.f
 repeat' first
   | (with_reducible exact ih0 _ _ _)
   | (with_reducible exact ih1 _ _ _ _ _)
   | (with_reducible exact LeO.refl _)
   | (with_reducible exact LeO.none _)
   | (with_reducible refine LeO.ite ?_ ?_)
   | (with_reducible refine LeO.bind ?_ (fun _=>?_))
   | exact ih0 _ _ _
   | exact ih1 _ _ _ _ _
   | exact LeO.none _
   | refine LeO.ite ?_ ?_
   | refine LeO.bind ?_ (fun _=>?_)
set_option maxHeartbeats 8000000 in
set_option maxRecDepth 100000 in
theorem spec_QRCenters.calls (k:Nat)(a0:Int)(r:List Int)(w:World)(h:spec_QRCenters.f k a0=some r) :
  Calls Tryz.prog 48 #[.int .i64 a0] w fun e w'=>∃ v0_:Value,e=.returned (v0_)/\Kd.R (Kd.int .i64) 3 w' w.heap.size (fun _=>True) v0_ r/\Below w.heap.size w w':=by
 have HB:=Aside0.mk (Below.refl w.heap.size w)
 have H:(if a0=1 then (some ([]:List Int)) else (if (wrap64 ((wrap64 ((wrap64 ((wrap64 (Int.tdiv a0 7))+2))*2))-2))=0 then (none) else (if a0=32 then (spec_QRCenters.j0 k a0 (wrap64 ((wrap64 (Int.tdiv a0 7))+2)) 26) else (spec_QRCenters.j0 k a0 (wrap64 ((wrap64 (Int.tdiv a0 7))+2)) (wrap64 ((wrap64 (Int.tdiv (wrap64 ((wrap64 ((wrap64 (a0*4))+(wrap64 ((wrap64 ((wrap64 (Int.tdiv a0 7))+2))*2))))+1)) (wrap64 ((wrap64 ((wrap64 ((wrap64 (Int.tdiv a0 7))+2))*2))-2))))*2))))))=some r:=h
 clear h
 by_cases c2:a0=1
 ·rw [if_pos c2] at H
  have c2b0:(a0==1)=true:=beq_iff_eq.mpr c2
  have c2b1:(a0 != 1)=false:=bne_eq_false_iff_eq.mpr c2
  clear c2
  obtain rfl:=Option.some.inj H
  go_enter Tryz.func48,Tryz.ntmps48
  go_wp2
  go_ret
  exact⟨_,by first | rfl | (simp [errW_none,errW_some]<;>rfl) | (simp [*,errW_none,errW_some]<;>rfl),by first | exact Kd.R_nil _ _ _ _ _ | exact Kd.N_nil _ _ _ _ _ | exact Kd.V_nil _ _ _ _ _ | exact Kd.Q_nil _ _ _ _ _ | exact Kd.S_nil _ _ _ _ _,by repeat (first | (with_reducible first | exact HB.out | apply below_alloc | apply pw_below_drewN | apply below_drew1) | exact HB.out)⟩
 ·rw [if_neg c2] at H
  have c2b0:(a0==1)=false:=beq_eq_false_iff_ne.mpr c2
  have c2b1:(a0 != 1)=true:=bne_iff_ne.mpr c2
  by_cases c3:(wrap64 ((wrap64 ((wrap64 ((wrap64 (Int.tdiv a0 7))+2))*2))-2))=0
  ·rw [if_pos c3] at H
   exact absurd H (by simp)
  ·rw [if_neg c3] at H
   have c3b0:((wrap64 ((wrap64 ((wrap64 ((wrap64 (Int.tdiv a0 7))+2))*2))-2))==0)=false:=beq_eq_false_iff_ne.mpr c3
   have c3b1:((wrap64 ((wrap64 ((wrap64 ((wrap64 (Int.tdiv a0 7))+2))*2))-2)) != 0)=true:=bne_iff_ne.mpr c3
   have HC4:=Aside0.mk H
   clear H
   go_enter Tryz.func48,Tryz.ntmps48
   go_upto_if 24 with (fail)
   go_cut [4] (fun v4 wc=>∃ (kq:Nat) (x4_3:Int),v4=.int .i64 x4_3/\Aside0 (spec_QRCenters.j0 kq a0 (wrap64 ((wrap64 (Int.tdiv a0 7))+2)) x4_3=some r)/\Aside0 (kq<=k)/\Aside0 (Below w.heap.size w wc))
   case first=>
    have H:=HC4.out
    clear HC4
    by_cases c5:a0=32
    ·rw [if_pos c5] at H
     have c5b0:(a0==32)=true:=beq_iff_eq.mpr c5
     have c5b1:(a0 != 32)=false:=bne_eq_false_iff_eq.mpr c5
     clear c5
     (first | rw [c5b0] | (simp only [i64_w,i32_w];rw [c5b0]) | skip)
     have H':=Aside0.mk H
     clear H
     go_wp2
     go_meet
     case rel=>exact⟨_,(26),(by first | rfl | (simp;done) | (simp [*];done)),H',⟨by first | omega | exact Nat.le_refl _⟩,⟨by repeat (first | (with_reducible first | exact HB.out | apply below_alloc | apply pw_below_drewN | apply below_drew1) | exact HB.out)⟩⟩
    ·rw [if_neg c5] at H
     have c5b0:(a0==32)=false:=beq_eq_false_iff_ne.mpr c5
     have c5b1:(a0 != 32)=true:=bne_iff_ne.mpr c5
     (first | rw [c5b0] | (simp only [i64_w,i32_w];rw [c5b0]) | skip)
     have H':=Aside0.mk H
     clear H
     go_wp2
     go_meet
     case rel=>exact⟨_,(wrap64 ((wrap64 (Int.tdiv (wrap64 ((wrap64 ((wrap64 (a0*4))+(wrap64 ((wrap64 ((wrap64 (Int.tdiv a0 7))+2))*2))))+1)) (wrap64 ((wrap64 ((wrap64 ((wrap64 (Int.tdiv a0 7))+2))*2))-2))))*2)),(by first | rfl | (simp;done) | (simp [*];done)),H',⟨by first | omega | exact Nat.le_refl _⟩,⟨by repeat (first | (with_reducible first | exact HB.out | apply below_alloc | apply pw_below_drewN | apply below_drew1) | exact HB.out)⟩⟩
   case rest=>
    clear HC4
    try clear c2
    try clear c2b0
    try clear c2b1
    try clear p2
    try clear c3
    try clear c3b0
    try clear c3b1
    try clear c4
    try clear c5
    try clear c5b0
    try clear c5b1
    obtain⟨kq,x4_3,rfl,HA,HJ3,HB⟩:=hcut
    cases kq with
    | zero=>exact absurd HA.out (by simp [spec_QRCenters.j0])
    | succ kj3=>
     have H:=HA.out
     clear HA
     simp only [spec_QRCenters.j0] at H
     obtain⟨ji6,hji6⟩:∃ j_:Int,(wrap64 ((wrap64 (Int.tdiv a0 7))+2))=j_:=⟨_,rfl⟩
     replace H:(if 0<=(ji6) then (if ((ji6):Int).toNat<=35184372088832 then ((some (List.replicate ((ji6):Int).toNat 0:List Int)).bind fun y295=>(if 0<(y295.length:Int) then (spec_QRCenters.l0 kj3 a0 (ji6) x4_3 (y295.set (0:Int).toNat 6) 1) else (none))) else (none)) else (none))=some r:=by first | (rw [hji6] at H;exact H) | (simp only [hji6] at H ⊢;exact H)
     (try rw [hji6] at c3b0)
     (try rw [hji6] at c3b1)
     have hji6w:(IntKind.i64.wrap ((wrap64 (Int.tdiv a0 7))+2))=ji6:=(i64_w _).trans hji6
     by_cases c7:0<=(ji6)
     ·rw [if_pos c7] at H
      have c7b0:=eq_true c7
      have c7b1:decide (0<=(ji6))=true:=decide_eq_true c7
      clear c7
      by_cases c8:((ji6):Int).toNat<=35184372088832
      ·rw [if_pos c8] at H
       have c8b0:=eq_true c8
       have c8b1:decide (((ji6):Int).toNat<=35184372088832)=true:=decide_eq_true c8
       clear c8
       obtain⟨y295,hy295⟩:∃ y_:List Int,y_=(List.replicate ((ji6):Int).toNat 0):=⟨_,rfl⟩
       replace H:(if 0<(y295.length:Int) then (spec_QRCenters.l0 kj3 a0 (ji6) x4_3 (y295.set (0:Int).toNat 6) 1) else (none))=some r:=by first | (rw [hy295];with_reducible exact H) | (have H2_:=(Option.bind_some _ _).symm.trans H;rw [hy295];with_reducible exact H2_) | (have H2_:=(Option.bind_some _ _).symm.trans H;with_reducible exact H2_) | with_reducible exact H | (rw [hy295];exact H) | exact H
       have Ny295:=Aside0.mk hy295
       clear hy295
       by_cases c9:0<(y295.length:Int)
       ·rw [if_pos c9] at H
        have c9b0:decide (0<(y295.length:Int))=true:=decide_eq_true c9
        have c9b1:decide (0<y295.length)=true:=decide_eq_true (by omega)
        clear c9
        obtain⟨y298,hy298⟩:∃ y_:List Int,y_=(y295.set (0:Int).toNat 6):=⟨_,rfl⟩
        replace H:(spec_QRCenters.l0 kj3 a0 (ji6) x4_3 y298 1)=some r:=by first | (rw [hy298];with_reducible exact H) | (have H2_:=(Option.bind_some _ _).symm.trans H;rw [hy298];with_reducible exact H2_) | (have H2_:=(Option.bind_some _ _).symm.trans H;with_reducible exact H2_) | with_reducible exact H | (rw [hy298];exact H) | exact H
        have Ny298:=Aside0.mk hy298
        clear hy298
        have H':=Aside0.mk H
        clear H
        try rw [hji6]
        go_wp2_with (first | ((with_reducible refine gate_dst (N:=26) rfl ?_);refine Kd.R_make (Kd.int .i64) _ 3 rfl (N:=26) rfl 93 _ _ rfl (ji6) rfl rfl Tryz.underlying93 (.int .i64 0) 8 info3 rfl (by decide) (by omega) 0 (ok:=fun _=>True) (okp:=fun _=>True) rfl (fun _ hk=>hk) trivial (of_decide_eq_true (by first | (with_reducible assumption) | assumption)) (Nat.le_trans (Nat.mul_le_mul_right _ (of_decide_eq_true (by first | (with_reducible assumption) | assumption):(ji6).toNat<=35184372088832)) (by omega)) (Below.refl _ _) (Nat.le_refl _) ?_;intro v296 w11 ho12 hb hg_ hnew_;clear hg_ hnew_;(first | rw [<- Ny295.out] at ho12 | (simp only [Int.reduceToNat] at ho12;rw [<- Ny295.out] at ho12));have n0_:=Aside0.mk (Kd.R_lower ho12 (below_size (by repeat (first | (with_reducible first | exact HB.out | apply below_alloc | apply pw_below_drewN | apply below_drew1) | exact HB.out))));have n1_:=Aside0.mk (below_step (by repeat (first | (with_reducible first | exact HB.out | apply below_alloc | apply pw_below_drewN | apply below_drew1) | exact HB.out)) hb);clear HB;have HO297:=n0_;have HB:=n1_;clear n0_ n1_;clear hb ho12;have p10:0<=(0:Int):=(by omega);have q10:(0:Int)<((y295.length:Int):Int):=of_decide_eq_true (by first | (with_reducible assumption) | assumption);have qi10:(0<y295.length)=True:=eq_true (by omega);obtain⟨go10,co10,eo10,gb10,gl10,cl10,HG10⟩:=Kd.R_form HO297.out (by omega);(first | cases eo10 | (injection eo10 with ea_ en_ ec_;(first | subst ea_ | (injection ea_ with ea_;subst ea_));subst ec_;clear en_));have GB10:=Aside0.mk gb10;have GG10:=Aside0.mk HG10;clear gb10 gl10 HG10;obtain⟨hx10_0,hf10_0⟩:=Kd.R_celln 0 HO297.out (0:Int) p10 q10;(try rw [show ((0:Int)).toNat=0 from rfl] at hx10_0);(try simp only [Nat.reduceMul,Nat.zero_mul,Nat.zero_add,Nat.reduceAdd] at hx10_0);(try rw [show ((0:Int)).toNat=0 from rfl] at hf10_0);(try simp only [Nat.reduceMul,Nat.zero_mul,Nat.zero_add,Nat.reduceAdd] at hf10_0);replace p10:=eq_true p10;replace q10:=eq_true q10;obtain⟨hy13_,hz13_⟩:=Kd.R_celln 0 HO297.out (0:Int) (by omega) (of_decide_eq_true (by first | (with_reducible assumption) | assumption));(try simp only [Int.reduceToNat,Int.toNat_zero,Int.toNat_ofNat,Nat.reduceMul,Nat.zero_mul,Nat.zero_add] at hy13_ hz13_);(try rw [show ((0:Int)).toNat=0 from rfl] at hy13_);(try rw [show ((0:Int)).toNat=0 from rfl] at hz13_);have HP13:=Kd.R_putg HO297.out (0:Int) 6) | ((with_reducible refine gate_store (t:=3) (p:=28) rfl ?_);refine store_event (t:=3) (p:=28) (v:=?vo_w14) (w1:=(w11.setCell ⟨go10,(0:Int).toNat,none⟩ (.int .i64 6))) ?hg ?ho ?hn ?hr ?_;(case ho=>rfl);(case hg=>rfl);(case hn=>rfl);(case hr=>first | (go_simp;done) | (go_simp;rfl) | (obtain⟨Av_,cv_,ev_⟩:=Kd.R_slice HO297.out;subst ev_;first | (go_simp;done) | (go_simp;rfl)));intro w14 hw;have hg:w11.grownBy w14 (some go10):=(by rw [hw];exact HP13.2);have hp_:Kd.R (Kd.int .i64) 3 w14 w.heap.size (fun _=>True) (.slice (some ⟨go10,0,none⟩) y295.length co10) y298:=(by rw [hw,Ny298.out];exact HP13.1);clear HP13;have n0_:=Aside0.mk (hp_);have n1_:=Aside0.mk ((by rw [hw];exact below_set (HB.out) GB10.out:Below w.heap.size w w14));clear HO297;clear HB;have HO297:=n0_;have HB:=n1_;clear n0_ n1_;clear hg hw hp_))
        go_loopg [6] kj3 (fun kq v6 w'=>∃ (x5_2:List Int) (x6_2:Int),v6=.int .i64 x6_2/\Aside0 (spec_QRCenters.l0 kq a0 (ji6) x4_3 x5_2 x6_2=some r)/\Aside0 (kq<=kj3)/\Aside0 (Kd.R (Kd.int .i64) 3 w' w.heap.size (fun _=>True) (.slice (some ⟨go10,0,none⟩) y295.length co10) x5_2)/\Aside0 (Below w.heap.size w w'))
        case atStart=>exact⟨(y298),(1),(by first | rfl | (simp;done) | (simp [*];done)),H',⟨Nat.le_refl _⟩,⟨by (with_reducible repeat (first | apply Kd.R_alloc | apply Kd.R_drewN | apply Kd.R_drew));exact HO297.out⟩,⟨by repeat (first | (with_reducible first | exact HB.out | apply below_alloc | apply pw_below_drewN | apply below_drew1) | exact HB.out)⟩⟩
        case round=>
         clear H'
         try clear p1
         try clear q1
         try clear hx1
         try clear qi1
         try clear hf1
         try clear c2
         try clear c2b0
         try clear c2b1
         try clear p2
         try clear c3
         try clear c3b0
         try clear c3b1
         try clear c4
         try clear c5
         try clear c5b0
         try clear c5b1
         try clear p6
         try clear c7
         try clear c7b0
         try clear c7b1
         try clear c8
         try clear c8b0
         try clear c8b1
         try clear c9
         try clear c9b0
         try clear c9b1
         try clear p10
         try clear q10
         try clear hx10
         try clear qi10
         try clear hf10
         try clear hx10_0
         try clear p10
         try clear p2
         try clear q10
         obtain⟨x5_2,x6_2,rfl,HA,HK2,HO_5,HB⟩:=hrel
         have hl5_2:=(Kd.R_reads' HO_5.out).1
         rw [hl5_2] at HO_5
         (try simp only [hl5_2])
         cases gk with
         | zero=>exact absurd HA.out (by simp [spec_QRCenters.l0])
         | succ k2=>
          have H:=HA.out
          clear HA
          simp only [spec_QRCenters.l0] at H
          by_cases c15:x6_2<(ji6)
          ·rw [if_pos c15] at H
           have c15b0:decide (x6_2<(ji6))=true:=decide_eq_true c15
           clear c15
           replace H:=Option.bind_eq_some_iff.mp H
           obtain⟨t299,A160,H⟩:=H
           replace H:(if 0<=x6_2 then (if x6_2<(x5_2.length:Int) then (spec_QRCenters.l0 k2 a0 (ji6) x4_3 (x5_2.set (x6_2:Int).toNat (wrap64 ((wrap64 (t299-7))-(wrap64 (x4_3*(wrap64 ((wrap64 ((ji6)-1))-x6_2))))))) (wrap64 (x6_2+1))) else (none)) else (none))=some r:=H
           have A16:=Aside0.mk A160
           clear A160
           by_cases c17:0<=x6_2
           ·rw [if_pos c17] at H
            have c17b0:decide (0<=x6_2)=true:=decide_eq_true c17
            clear c17
            by_cases c18:x6_2<(x5_2.length:Int)
            ·rw [if_pos c18] at H
             have c18b0:decide (x6_2<(x5_2.length:Int))=true:=decide_eq_true c18
             clear c18
             obtain⟨y300,hy300⟩:∃ y_:List Int,y_=(x5_2.set (x6_2:Int).toNat (wrap64 ((wrap64 (t299-7))-(wrap64 (x4_3*(wrap64 ((wrap64 ((ji6)-1))-x6_2))))))):=⟨_,rfl⟩
             replace H:(spec_QRCenters.l0 k2 a0 (ji6) x4_3 y300 (wrap64 (x6_2+1)))=some r:=by first | (rw [hy300];with_reducible exact H) | (have H2_:=(Option.bind_some _ _).symm.trans H;rw [hy300];with_reducible exact H2_) | (have H2_:=(Option.bind_some _ _).symm.trans H;with_reducible exact H2_) | with_reducible exact H | (rw [hy300];exact H) | exact H
             have Ny300:=Aside0.mk hy300
             clear hy300
             have H':=Aside0.mk H
             clear H
             go_wp2_with (first | ((with_reducible refine gate_callee (f:=46) rfl ?_);refine goesL_ (some 37) rfl rfl Tryz.func46 (by kernel_rfl) rfl #[.int .i64 a0] rfl (by (try simp only [List.map_toArray,List.map_cons,List.map_nil]);first | done | rfl | (simp only [List.length_drop,List.length_take];rfl)) ?_;(with_reducible refine (spec_QRDimension.calls a0 t299 _ A16.out).mono ?_);rintro e w' ⟨rfl,⟨nd,rfl⟩⟩;refine⟨_,rfl,?_⟩;(try (rw [drewN_self wr];generalize hq_:World.drewN wr _=wr;have n0_:Aside0 (Kd.R (Kd.int .i64) 3 wr w.heap.size (fun _=>True) (.slice (some ⟨go10,0,none⟩) x5_2.length co10) x5_2):=⟨by rw [<- hq_];exact (by (with_reducible repeat (first | apply Kd.R_alloc | apply Kd.R_drewN | apply Kd.R_drew));exact HO_5.out)⟩;have n1_:Aside0 (Below w.heap.size w wr):=⟨by rw [<- hq_];exact (by repeat (first | (with_reducible first | exact HB.out | apply below_alloc | apply pw_below_drewN | apply below_drew1) | exact HB.out))⟩;clear HO_5 HB hq_;have HO_5:=n0_;have HB:=n1_;clear n0_ n1_));have p19:0<=(x6_2:Int):=of_decide_eq_true (by first | (with_reducible assumption) | assumption);have q19:(x6_2:Int)<((x5_2.length:Int):Int):=of_decide_eq_true (by first | (with_reducible assumption) | assumption);obtain⟨hx19_0,hf19_0⟩:=Kd.R_celln 0 HO_5.out (x6_2:Int) p19 q19;replace p19:=eq_true p19;replace q19:=eq_true q19;obtain⟨hy20_,hz20_⟩:=Kd.R_celln 0 HO_5.out (x6_2:Int) (of_decide_eq_true (by first | (with_reducible assumption) | assumption)) (of_decide_eq_true (by first | (with_reducible assumption) | assumption));have HP20:=Kd.R_putg HO_5.out (x6_2:Int) (wrap64 ((wrap64 (t299-7))-(wrap64 (x4_3*(wrap64 ((wrap64 ((ji6)-1))-x6_2))))))) | ((with_reducible refine gate_store (t:=3) (p:=46) rfl ?_);refine store_event (t:=3) (p:=46) (v:=?vo_w21) (w1:=(wr.setCell ⟨go10,(x6_2:Int).toNat,none⟩ (.int .i64 (wrap64 ((wrap64 (t299-7))-(wrap64 (x4_3*(wrap64 ((wrap64 ((ji6)-1))-x6_2))))))))) ?hg ?ho ?hn ?hr ?_;(case ho=>rfl);(case hg=>rfl);(case hn=>rfl);(case hr=>first | (go_simp;done) | (go_simp;rfl));intro w21 hw;have hg:wr.grownBy w21 (some go10):=(by rw [hw];exact HP20.2);have hp_:Kd.R (Kd.int .i64) 3 w21 w.heap.size (fun _=>True) (.slice (some ⟨go10,0,none⟩) x5_2.length co10) y300:=(by rw [hw,Ny300.out];exact HP20.1);clear HP20;have n0_:=Aside0.mk (hp_);have n1_:=Aside0.mk ((by rw [hw];exact below_set (HB.out) GB10.out:Below w.heap.size w w21));clear HO_5;clear HB;have HO_5:=n0_;have HB:=n1_;clear n0_ n1_;clear hg hw hp_))
             (try simp only [<- hl5_2])
             go_roundg k2
             case measure=>have:=HJ3.out;have:=HK2.out;omega
             case rel=>exact⟨(y300),(wrap64 (x6_2+1)),(by first | rfl | (simp;done) | (simp [*];done)),H',⟨by have:=HJ3.out;have:=HK2.out;omega⟩,⟨by (try simp only [hl5_2]);(with_reducible repeat (first | apply Kd.R_alloc | apply Kd.R_drewN | apply Kd.R_drew));exact HO_5.out⟩,⟨by repeat (first | (with_reducible first | exact HB.out | apply below_alloc | apply pw_below_drewN | apply below_drew1) | exact HB.out)⟩⟩
            ·rw [if_neg c18] at H
             exact absurd H (by simp)
           ·rw [if_neg c17] at H
            exact absurd H (by simp)
          ·rw [if_neg c15] at H
           have c15b0:decide (x6_2<(ji6))=false:=decide_eq_false c15
           clear c15
           obtain rfl:=Option.some.inj H
           go_wp2
           go_ret
           exact⟨_,by first | rfl | (simp [errW_none,errW_some]<;>rfl) | (simp only [<- hji6];first | rfl | (simp [errW_none,errW_some]<;>rfl)) | (simp [*,errW_none,errW_some]<;>rfl),by (with_reducible repeat (first | apply Kd.R_alloc | apply Kd.R_drewN | apply Kd.R_drew));exact HO_5.out,by repeat (first | (with_reducible first | exact HB.out | apply below_alloc | apply pw_below_drewN | apply below_drew1) | exact HB.out)⟩
       ·rw [if_neg c9] at H
        exact absurd H (by simp)
      ·rw [if_neg c8] at H
       exact absurd H (by simp)
     ·rw [if_neg c7] at H
      exact absurd H (by simp)
end Go.Proofs.YtgccjgpdjkhpdaaGreat.F
namespace Go.Proofs.YtgccjgpdjkhpdaaGreat.B
open Go.RowKit Go.Proofs.YtgccjgpdjkhpdaaGreatW.PrintWords Go.Proofs.YtgccjgpdjkhpdaaGreatW.PrintLast Go.Proofs.YtgccjgpdjkhpdaaGreatW.PrintMore
set_option linter.unusedVariables false
set_option linter.unusedSimpArgs false
theorem u8_wf {n:Int}(h:(Lit.int .u8 n).wf=true):0<=n/\n<=255:=by
 unfold Lit.wf at h
 simp [IntKind.min,IntKind.max,IntKind.bits,IntKind.signed] at h
 omega
end Go.Proofs.YtgccjgpdjkhpdaaGreat.B
namespace Go.Proofs.YtgccjgpdjkhpdaaGreat.F
open Go.RowKit Go.Proofs.YtgccjgpdjkhpdaaGreatW.PrintWords Go.Proofs.YtgccjgpdjkhpdaaGreatW.PrintLast Go.Proofs.YtgccjgpdjkhpdaaGreatW.PrintMore
attribute [local go_sem] max2_int min2_int max_two min_two max_three min_three max_four min_four
set_option linter.unusedVariables false
set_option linter.unusedSimpArgs false
def laws_qrBytes.l0:Nat->List Int->List Int->Int->Int->Option (Bool)
 | 0,_,_,_,_=>none
 | k+1,x0,x1,x12,x13=>if x13<x12 then (if 0<=x13 then (if x13<(x0.length:Int) then (if x13<(x1.length:Int) then (if (rd x0 x13)=(rd x1 x13) then (laws_qrBytes.l0 k x0 x1 x12 (wrap64 (x13+1))) else (some false)) else (none)) else (none)) else (none)) else (some true)
def laws_qrBytes.f (k:Nat)(l0:List Int)(l1:List Int):Option (Bool):=if (l0.length:Int)=(l1.length:Int) then (laws_qrBytes.l0 k l0 l1 (l0.length:Int) 0) else (some false)
theorem laws_qrBytes.mono_l:∀ k,(∀ y0 y1 y2 y3,LeO (laws_qrBytes.l0 k y0 y1 y2 y3) (laws_qrBytes.l0 (k+1) y0 y1 y2 y3))
 | 0=>fun _ _ _ _ r h=>by simp [laws_qrBytes.l0] at h
 | k+1=>by
  have ih0:=laws_qrBytes.mono_l k
  ·intro y0 y1 y2 y3
   unfold laws_qrBytes.l0
   repeat' first
   | (with_reducible exact ih0 _ _ _ _)
   | (with_reducible exact LeO.refl _)
   | (with_reducible exact LeO.none _)
   | (with_reducible refine LeO.ite ?_ ?_)
   | (with_reducible refine LeO.bind ?_ (fun _=>?_))
   | exact ih0 _ _ _ _
   | exact LeO.none _
   | refine LeO.ite ?_ ?_
   | refine LeO.bind ?_ (fun _=>?_)
theorem laws_qrBytes.mono:∀ a0 a1 k,LeO (laws_qrBytes.f k a0 a1) (laws_qrBytes.f (k+1) a0 a1):=by
 intro a0 a1 k
 have ih0:=laws_qrBytes.mono_l k
 unfold laws_qrBytes.f
 repeat' first
   | (with_reducible exact ih0 _ _ _ _)
   | (with_reducible exact LeO.refl _)
   | (with_reducible exact LeO.none _)
   | (with_reducible refine LeO.ite ?_ ?_)
   | (with_reducible refine LeO.bind ?_ (fun _=>?_))
   | exact ih0 _ _ _ _
   | exact LeO.none _
   | refine LeO.ite ?_ ?_
   | refine LeO.bind ?_ (fun _=>?_)
def laws_zzFits7.l0:Nat->List (List Bool)->Int->Int->Option (Bool)
 | 0,_,_,_=>none
 | k+1,x8,x9,x10=>if x10<x9 then (if 0<=x10 then (if x10<(x8.length:Int) then (if ((rd_L1 x8 x10).length:Int)>2147483647 then (some false) else (laws_zzFits7.l0 k x8 x9 (wrap64 (x10+1)))) else (none)) else (none)) else (some true)
def laws_zzFits7.f (k:Nat)(l0:List (List Bool)):Option (Bool):=if (l0.length:Int)>2147483647 then (some false) else (laws_zzFits7.l0 k l0 (l0.length:Int) 0)
theorem laws_zzFits7.mono_l:∀ k,(∀ y0 y1 y2,LeO (laws_zzFits7.l0 k y0 y1 y2) (laws_zzFits7.l0 (k+1) y0 y1 y2))
 | 0=>fun _ _ _ r h=>by simp [laws_zzFits7.l0] at h
 | k+1=>by
  have ih0:=laws_zzFits7.mono_l k
  ·intro y0 y1 y2
   unfold laws_zzFits7.l0
   repeat' first
   | (with_reducible exact ih0 _ _ _)
   | (with_reducible exact LeO.refl _)
   | (with_reducible exact LeO.none _)
   | (with_reducible refine LeO.ite ?_ ?_)
   | (with_reducible refine LeO.bind ?_ (fun _=>?_))
   | exact ih0 _ _ _
   | exact LeO.none _
   | refine LeO.ite ?_ ?_
   | refine LeO.bind ?_ (fun _=>?_)
theorem laws_zzFits7.mono:∀ a0 k,LeO (laws_zzFits7.f k a0) (laws_zzFits7.f (k+1) a0):=by
 intro a0 k
 have ih0:=laws_zzFits7.mono_l k
 unfold laws_zzFits7.f
 repeat' first
   | (with_reducible exact ih0 _ _ _)
   | (with_reducible exact LeO.refl _)
   | (with_reducible exact LeO.none _)
   | (with_reducible refine LeO.ite ?_ ?_)
   | (with_reducible refine LeO.bind ?_ (fun _=>?_))
   | exact ih0 _ _ _
   | exact LeO.none _
   | refine LeO.ite ?_ ?_
   | refine LeO.bind ?_ (fun _=>?_)
def laws_qrVersion.f (a0:Int):Option (Int):=some (wrap64 (1+(Int.tmod (wrap64 (a0)) 40)))
set_option maxHeartbeats 8000000 in
set_option maxRecDepth 100000 in
theorem laws_qrVersion.calls (a0:Int)(r:Int)(w:World)(h:laws_qrVersion.f a0=some r) :
  Calls Tryz.prog 11 #[.int .u8 a0] w fun e w'=>e=.returned (.int .i64 r)/\Drawn0 w w':=by
 have H:(some (wrap64 (1+(Int.tmod (wrap64 (a0)) 40))))=some r:=h
 clear h
 obtain rfl:=Option.some.inj H
 go_enter Tryz.func11,Tryz.ntmps11
 go_wp2
 go_ret
 exact⟨by first | rfl | (simp;done) | (simp [*];done),by repeat (first | exact Drawn0.refl _ | apply Drawn0.step)⟩
def IsS224 (w0 W:World)(g:Nat)(f0:Int)(f1:List (S221)):Prop:=∃ A1 c1,W.heap[g]? = some (.cells #[.int .i64 f0,.slice A1 f1.length c1] 224 (0,0))/\w0.heap.size<=g/\Kd.C k221 w0 A1 f1.length f1
theorem IsS224.grown {w0 W:World}{g:Nat}{f0:Int}{f1:List (S221)}{W1:World}{row:Option Nat}(h:IsS224 w0 W g f0 f1)(hw:W.grownBy W1 row)(hne:some g≠row):IsS224 w0 W1 g f0 f1:=by
 obtain⟨A1,c1,hb,hg,hr1⟩:=h
 exact⟨A1,c1,blk_grown hb hw hne,hg,hr1⟩
theorem IsS224.fresh {w0 W:World}{g:Nat}{f0:Int}{f1:List (S221)}(h:IsS224 w0 W g f0 f1):∀ k,W.heap.size<=k->k≠g:=by
 obtain⟨A1,c1,hb,hg,hr1⟩:=h
 exact Kd.freshB hb
theorem IsS224.kept {w0 W:World}{g:Nat}{f0:Int}{f1:List (S221)}{W1:World}{S:Nat->Prop}(h:IsS224 w0 W g f0 f1)(hk:Kept W W1 S)(hne:¬ S g):IsS224 w0 W1 g f0 f1:=by
 obtain⟨A1,c1,hb,hg,hr1⟩:=h
 exact⟨A1,c1,blk_kept hb hk hne,hg,hr1⟩
theorem IsS224.below {w0 W:World}{g:Nat}{f0:Int}{f1:List (S221)}{W1:World}(h:IsS224 w0 W g f0 f1)(hw:Below W.heap.size W W1):IsS224 w0 W1 g f0 f1:=h.grown (grown_of_below hw none) (by simp)
theorem IsS224.alloc {w0 W:World}{g:Nat}{f0:Int}{f1:List (S221)}(h:IsS224 w0 W g f0 f1)(o:Obj):IsS224 w0 (W.alloc o) g f0 f1:=h.below (below_alloc (Below.refl _ _) o)
theorem IsS224.drewN {w0 W:World}{g:Nat}{f0:Int}{f1:List (S221)}(h:IsS224 w0 W g f0 f1)(m:Nat):IsS224 w0 (W.drewN m) g f0 f1:=h
theorem IsS224.drew {w0 W:World}{g:Nat}{f0:Int}{f1:List (S221)}(h:IsS224 w0 W g f0 f1):IsS224 w0 W.drew g f0 f1:=h
theorem IsS224.at_ {w0 W:World}{g:Nat}{f0:Int}{f1:List (S221)}{w':World}{m:Nat}(hq:W.drewN m=w')(h:IsS224 w0 W g f0 f1):IsS224 w0 w' g f0 f1:=by subst hq;exact IsS224.drewN h m
theorem IsS224.own_ne {w0 W:World}{g:Nat}{f0:Int}{f1:List (S221)}{α:Type}{d:Kd α}{e:Nat}{base:Nat}{ok:Nat->Prop}{v:Value}{xs:List α}(h:IsS224 w0 W g f0 f1)(ho:d.R e W base ok v xs)(ht:e≠224):some g≠v.ownBlock:=by
 obtain⟨A1,c1,hb,hg,hr1⟩:=h
 exact Kd.R_ne ho hb ht
theorem IsS224.lt {w0 W:World}{g:Nat}{f0:Int}{f1:List (S221)}(h:IsS224 w0 W g f0 f1):g<W.heap.size:=by
 obtain⟨A1,c1,hb,hg,hr1⟩:=h
 exact blk_lt hb
theorem IsS224.ge {w0 W:World}{g:Nat}{f0:Int}{f1:List (S221)}(h:IsS224 w0 W g f0 f1):w0.heap.size<=g:=by
 obtain⟨A1,c1,hb,hg,hr1⟩:=h
 exact hg
theorem IsS224.far {w0 W:World}{g:Nat}{f0:Int}{f1:List (S221)}{p:Addr}(h:IsS224 w0 W g f0 f1)(hne:g≠p.block)(u:Value):IsS224 w0 (W.setCell p u) g f0 f1:=by
 obtain⟨A1,c1,hb,hg,hr1⟩:=h
 exact⟨A1,c1,blk_far hb hne u,hg,hr1⟩
def spec_QRRoom.f (k:Nat)(a0:Int):Option (Int):=(spec_QRDimension.f a0).bind fun t347=>((spec_QRCenters.f k a0).bind fun t348=>(if a0≥7 then (if (t348.length:Int)>0 then (some (wrap64 ((wrap64 ((wrap64 ((wrap64 ((wrap64 ((wrap64 (t347*t347))-192))-(wrap64 (2*(wrap64 (t347-16))))))-31))-36))-(wrap64 ((wrap64 (25*(wrap64 ((wrap64 ((t348.length:Int)*(t348.length:Int)))-3))))-(wrap64 (10*(wrap64 ((t348.length:Int)-2))))))))) else (some (wrap64 ((wrap64 ((wrap64 ((wrap64 ((wrap64 (t347*t347))-192))-(wrap64 (2*(wrap64 (t347-16))))))-31))-36)))) else (if (t348.length:Int)>0 then (some (wrap64 ((wrap64 ((wrap64 ((wrap64 ((wrap64 (t347*t347))-192))-(wrap64 (2*(wrap64 (t347-16))))))-31))-(wrap64 ((wrap64 (25*(wrap64 ((wrap64 ((t348.length:Int)*(t348.length:Int)))-3))))-(wrap64 (10*(wrap64 ((t348.length:Int)-2))))))))) else (some (wrap64 ((wrap64 ((wrap64 ((wrap64 (t347*t347))-192))-(wrap64 (2*(wrap64 (t347-16))))))-31))))))
theorem spec_QRRoom.mono:∀ a0 k,LeO (spec_QRRoom.f k a0) (spec_QRRoom.f (k+1) a0):=by
 intro a0 k
 unfold spec_QRRoom.f
 repeat' first
   | (with_reducible exact spec_QRCenters.mono _ _)
   | (with_reducible exact LeO.refl _)
   | (with_reducible exact LeO.none _)
   | (with_reducible refine LeO.ite ?_ ?_)
   | (with_reducible refine LeO.bind ?_ (fun _=>?_))
   | exact spec_QRCenters.mono _ _
   | exact LeO.none _
   | refine LeO.ite ?_ ?_
   | refine LeO.bind ?_ (fun _=>?_)
set_option maxHeartbeats 8000000 in
set_option maxRecDepth 100000 in
theorem spec_QRRoom.calls (k:Nat)(a0:Int)(r:Int)(w:World)(h:spec_QRRoom.f k a0=some r) :
  Calls Tryz.prog 102 #[.int .i64 a0] w fun e w'=>e=.returned (.int .i64 r)/\Below w.heap.size w w':=by
 have HB:=Aside0.mk (Below.refl w.heap.size w)
 have H:((spec_QRDimension.f a0).bind fun t347=>((spec_QRCenters.f k a0).bind fun t348=>(if a0≥7 then (if (t348.length:Int)>0 then (some (wrap64 ((wrap64 ((wrap64 ((wrap64 ((wrap64 ((wrap64 (t347*t347))-192))-(wrap64 (2*(wrap64 (t347-16))))))-31))-36))-(wrap64 ((wrap64 (25*(wrap64 ((wrap64 ((t348.length:Int)*(t348.length:Int)))-3))))-(wrap64 (10*(wrap64 ((t348.length:Int)-2))))))))) else (some (wrap64 ((wrap64 ((wrap64 ((wrap64 ((wrap64 (t347*t347))-192))-(wrap64 (2*(wrap64 (t347-16))))))-31))-36)))) else (if (t348.length:Int)>0 then (some (wrap64 ((wrap64 ((wrap64 ((wrap64 ((wrap64 (t347*t347))-192))-(wrap64 (2*(wrap64 (t347-16))))))-31))-(wrap64 ((wrap64 (25*(wrap64 ((wrap64 ((t348.length:Int)*(t348.length:Int)))-3))))-(wrap64 (10*(wrap64 ((t348.length:Int)-2))))))))) else (some (wrap64 ((wrap64 ((wrap64 ((wrap64 (t347*t347))-192))-(wrap64 (2*(wrap64 (t347-16))))))-31)))))))=some r:=h
 clear h
 replace H:=Option.bind_eq_some_iff.mp H
 obtain⟨t347,A20,H⟩:=H
 replace H:((spec_QRCenters.f k a0).bind fun t348=>(if a0≥7 then (if (t348.length:Int)>0 then (some (wrap64 ((wrap64 ((wrap64 ((wrap64 ((wrap64 ((wrap64 (t347*t347))-192))-(wrap64 (2*(wrap64 (t347-16))))))-31))-36))-(wrap64 ((wrap64 (25*(wrap64 ((wrap64 ((t348.length:Int)*(t348.length:Int)))-3))))-(wrap64 (10*(wrap64 ((t348.length:Int)-2))))))))) else (some (wrap64 ((wrap64 ((wrap64 ((wrap64 ((wrap64 (t347*t347))-192))-(wrap64 (2*(wrap64 (t347-16))))))-31))-36)))) else (if (t348.length:Int)>0 then (some (wrap64 ((wrap64 ((wrap64 ((wrap64 ((wrap64 (t347*t347))-192))-(wrap64 (2*(wrap64 (t347-16))))))-31))-(wrap64 ((wrap64 (25*(wrap64 ((wrap64 ((t348.length:Int)*(t348.length:Int)))-3))))-(wrap64 (10*(wrap64 ((t348.length:Int)-2))))))))) else (some (wrap64 ((wrap64 ((wrap64 ((wrap64 (t347*t347))-192))-(wrap64 (2*(wrap64 (t347-16))))))-31))))))=some r:=H
 have A2:=Aside0.mk A20
 clear A20
 replace H:=Option.bind_eq_some_iff.mp H
 obtain⟨t348,A30,H⟩:=H
 replace H:(if a0≥7 then (if (t348.length:Int)>0 then (some (wrap64 ((wrap64 ((wrap64 ((wrap64 ((wrap64 ((wrap64 (t347*t347))-192))-(wrap64 (2*(wrap64 (t347-16))))))-31))-36))-(wrap64 ((wrap64 (25*(wrap64 ((wrap64 ((t348.length:Int)*(t348.length:Int)))-3))))-(wrap64 (10*(wrap64 ((t348.length:Int)-2))))))))) else (some (wrap64 ((wrap64 ((wrap64 ((wrap64 ((wrap64 (t347*t347))-192))-(wrap64 (2*(wrap64 (t347-16))))))-31))-36)))) else (if (t348.length:Int)>0 then (some (wrap64 ((wrap64 ((wrap64 ((wrap64 ((wrap64 (t347*t347))-192))-(wrap64 (2*(wrap64 (t347-16))))))-31))-(wrap64 ((wrap64 (25*(wrap64 ((wrap64 ((t348.length:Int)*(t348.length:Int)))-3))))-(wrap64 (10*(wrap64 ((t348.length:Int)-2))))))))) else (some (wrap64 ((wrap64 ((wrap64 ((wrap64 (t347*t347))-192))-(wrap64 (2*(wrap64 (t347-16))))))-31)))))=some r:=H
 have A3:=Aside0.mk A30
 clear A30
 by_cases c4:a0≥7
 ·rw [if_pos c4] at H
  have c4b0:decide (7<=a0)=true:=decide_eq_true c4
  clear c4
  by_cases c5:(t348.length:Int)>0
  ·rw [if_pos c5] at H
   have c5b0:decide (0<(t348.length:Int))=true:=decide_eq_true c5
   have c5b1:decide (0<t348.length)=true:=decide_eq_true (by omega)
   clear c5
   obtain rfl:=Option.some.inj H
   go_enter Tryz.func102,Tryz.ntmps102
   go_wp2_with (first | ((with_reducible refine gate_callee (f:=46) rfl ?_);refine goesL_ (some 7) rfl rfl Tryz.func46 (by kernel_rfl) rfl #[.int .i64 a0] rfl (by (try simp only [List.map_toArray,List.map_cons,List.map_nil]);first | done | rfl | (simp only [List.length_drop,List.length_take];rfl)) ?_;(with_reducible refine (spec_QRDimension.calls a0 t347 _ A2.out).mono ?_);rintro e w' ⟨rfl,⟨nd,rfl⟩⟩;refine⟨_,rfl,?_⟩) | ((with_reducible refine gate_callee (f:=48) rfl ?_);refine goesL_ (some 9) rfl rfl Tryz.func48 (by kernel_rfl) rfl #[.int .i64 a0] rfl (by (try simp only [List.map_toArray,List.map_cons,List.map_nil]);first | done | rfl | (simp only [List.length_drop,List.length_take];rfl)) ?_;(with_reducible refine (spec_QRCenters.calls k a0 t348 _ A3.out).mono ?_);rintro e w6 ⟨v349,rfl,ho0,hb⟩;refine⟨_,rfl,?_⟩;have n0_:=Aside0.mk (Kd.R_lower ho0 (below_size (by repeat (first | (with_reducible first | exact HB.out | apply below_alloc | apply pw_below_drewN | apply below_drew1) | exact HB.out))));have n1_:=Aside0.mk (below_step (by repeat (first | (with_reducible first | exact HB.out | apply below_alloc | apply pw_below_drewN | apply below_drew1) | exact HB.out)) hb);clear HB;have HO350:=n0_;have HB:=n1_;clear n0_ n1_;(try clear hb);(try clear hb2);(try clear hk);(try clear hi);(try clear ho0);obtain⟨Ao7,co7,eo7⟩:=Kd.R_slice HO350.out;subst eo7))
   go_ret
   exact⟨by first | rfl | (simp [errW_none,errW_some]<;>rfl) | (simp [*,errW_none,errW_some]<;>rfl),by repeat (first | (with_reducible first | exact HB.out | apply below_alloc | apply pw_below_drewN | apply below_drew1) | exact HB.out)⟩
  ·rw [if_neg c5] at H
   have c5b0:decide (0<(t348.length:Int))=false:=decide_eq_false c5
   have c5b1:decide (0<t348.length)=false:=decide_eq_false (by omega)
   clear c5
   obtain rfl:=Option.some.inj H
   go_enter Tryz.func102,Tryz.ntmps102
   go_wp2_with (first | ((with_reducible refine gate_callee (f:=46) rfl ?_);refine goesL_ (some 7) rfl rfl Tryz.func46 (by kernel_rfl) rfl #[.int .i64 a0] rfl (by (try simp only [List.map_toArray,List.map_cons,List.map_nil]);first | done | rfl | (simp only [List.length_drop,List.length_take];rfl)) ?_;(with_reducible refine (spec_QRDimension.calls a0 t347 _ A2.out).mono ?_);rintro e w' ⟨rfl,⟨nd,rfl⟩⟩;refine⟨_,rfl,?_⟩) | ((with_reducible refine gate_callee (f:=48) rfl ?_);refine goesL_ (some 9) rfl rfl Tryz.func48 (by kernel_rfl) rfl #[.int .i64 a0] rfl (by (try simp only [List.map_toArray,List.map_cons,List.map_nil]);first | done | rfl | (simp only [List.length_drop,List.length_take];rfl)) ?_;(with_reducible refine (spec_QRCenters.calls k a0 t348 _ A3.out).mono ?_);rintro e w8 ⟨v349,rfl,ho0,hb⟩;refine⟨_,rfl,?_⟩;have n0_:=Aside0.mk (Kd.R_lower ho0 (below_size (by repeat (first | (with_reducible first | exact HB.out | apply below_alloc | apply pw_below_drewN | apply below_drew1) | exact HB.out))));have n1_:=Aside0.mk (below_step (by repeat (first | (with_reducible first | exact HB.out | apply below_alloc | apply pw_below_drewN | apply below_drew1) | exact HB.out)) hb);clear HB;have HO350:=n0_;have HB:=n1_;clear n0_ n1_;(try clear hb);(try clear hb2);(try clear hk);(try clear hi);(try clear ho0);obtain⟨Ao9,co9,eo9⟩:=Kd.R_slice HO350.out;subst eo9))
   go_ret
   exact⟨by first | rfl | (simp [errW_none,errW_some]<;>rfl) | (simp [*,errW_none,errW_some]<;>rfl),by repeat (first | (with_reducible first | exact HB.out | apply below_alloc | apply pw_below_drewN | apply below_drew1) | exact HB.out)⟩
 ·rw [if_neg c4] at H
  have c4b0:decide (7<=a0)=false:=decide_eq_false c4
  clear c4
  by_cases c10:(t348.length:Int)>0
  ·rw [if_pos c10] at H
   have c10b0:decide (0<(t348.length:Int))=true:=decide_eq_true c10
   have c10b1:decide (0<t348.length)=true:=decide_eq_true (by omega)
   clear c10
   obtain rfl:=Option.some.inj H
   go_enter Tryz.func102,Tryz.ntmps102
   go_wp2_with (first | ((with_reducible refine gate_callee (f:=46) rfl ?_);refine goesL_ (some 7) rfl rfl Tryz.func46 (by kernel_rfl) rfl #[.int .i64 a0] rfl (by (try simp only [List.map_toArray,List.map_cons,List.map_nil]);first | done | rfl | (simp only [List.length_drop,List.length_take];rfl)) ?_;(with_reducible refine (spec_QRDimension.calls a0 t347 _ A2.out).mono ?_);rintro e w' ⟨rfl,⟨nd,rfl⟩⟩;refine⟨_,rfl,?_⟩) | ((with_reducible refine gate_callee (f:=48) rfl ?_);refine goesL_ (some 9) rfl rfl Tryz.func48 (by kernel_rfl) rfl #[.int .i64 a0] rfl (by (try simp only [List.map_toArray,List.map_cons,List.map_nil]);first | done | rfl | (simp only [List.length_drop,List.length_take];rfl)) ?_;(with_reducible refine (spec_QRCenters.calls k a0 t348 _ A3.out).mono ?_);rintro e w11 ⟨v349,rfl,ho0,hb⟩;refine⟨_,rfl,?_⟩;have n0_:=Aside0.mk (Kd.R_lower ho0 (below_size (by repeat (first | (with_reducible first | exact HB.out | apply below_alloc | apply pw_below_drewN | apply below_drew1) | exact HB.out))));have n1_:=Aside0.mk (below_step (by repeat (first | (with_reducible first | exact HB.out | apply below_alloc | apply pw_below_drewN | apply below_drew1) | exact HB.out)) hb);clear HB;have HO350:=n0_;have HB:=n1_;clear n0_ n1_;(try clear hb);(try clear hb2);(try clear hk);(try clear hi);(try clear ho0);obtain⟨Ao12,co12,eo12⟩:=Kd.R_slice HO350.out;subst eo12))
   go_ret
   exact⟨by first | rfl | (simp [errW_none,errW_some]<;>rfl) | (simp [*,errW_none,errW_some]<;>rfl),by repeat (first | (with_reducible first | exact HB.out | apply below_alloc | apply pw_below_drewN | apply below_drew1) | exact HB.out)⟩
  ·rw [if_neg c10] at H
   have c10b0:decide (0<(t348.length:Int))=false:=decide_eq_false c10
   have c10b1:decide (0<t348.length)=false:=decide_eq_false (by omega)
   clear c10
   obtain rfl:=Option.some.inj H
   go_enter Tryz.func102,Tryz.ntmps102
   go_wp2_with (first | ((with_reducible refine gate_callee (f:=46) rfl ?_);refine goesL_ (some 7) rfl rfl Tryz.func46 (by kernel_rfl) rfl #[.int .i64 a0] rfl (by (try simp only [List.map_toArray,List.map_cons,List.map_nil]);first | done | rfl | (simp only [List.length_drop,List.length_take];rfl)) ?_;(with_reducible refine (spec_QRDimension.calls a0 t347 _ A2.out).mono ?_);rintro e w' ⟨rfl,⟨nd,rfl⟩⟩;refine⟨_,rfl,?_⟩) | ((with_reducible refine gate_callee (f:=48) rfl ?_);refine goesL_ (some 9) rfl rfl Tryz.func48 (by kernel_rfl) rfl #[.int .i64 a0] rfl (by (try simp only [List.map_toArray,List.map_cons,List.map_nil]);first | done | rfl | (simp only [List.length_drop,List.length_take];rfl)) ?_;(with_reducible refine (spec_QRCenters.calls k a0 t348 _ A3.out).mono ?_);rintro e w13 ⟨v349,rfl,ho0,hb⟩;refine⟨_,rfl,?_⟩;have n0_:=Aside0.mk (Kd.R_lower ho0 (below_size (by repeat (first | (with_reducible first | exact HB.out | apply below_alloc | apply pw_below_drewN | apply below_drew1) | exact HB.out))));have n1_:=Aside0.mk (below_step (by repeat (first | (with_reducible first | exact HB.out | apply below_alloc | apply pw_below_drewN | apply below_drew1) | exact HB.out)) hb);clear HB;have HO350:=n0_;have HB:=n1_;clear n0_ n1_;(try clear hb);(try clear hb2);(try clear hk);(try clear hi);(try clear ho0);obtain⟨Ao14,co14,eo14⟩:=Kd.R_slice HO350.out;subst eo14))
   go_ret
   exact⟨by first | rfl | (simp [errW_none,errW_some]<;>rfl) | (simp [*,errW_none,errW_some]<;>rfl),by repeat (first | (with_reducible first | exact HB.out | apply below_alloc | apply pw_below_drewN | apply below_drew1) | exact HB.out)⟩
def spec_QRTotal.f (k:Nat)(a0:Int):Option (Int):=(spec_QRRoom.f k a0).bind fun t351=>(some (wrap64 (Int.tdiv t351 8)))
theorem spec_QRTotal.mono:∀ a0 k,LeO (spec_QRTotal.f k a0) (spec_QRTotal.f (k+1) a0):=by
 intro a0 k
 unfold spec_QRTotal.f
 repeat' first
   | (with_reducible exact spec_QRRoom.mono _ _)
   | (with_reducible exact LeO.refl _)
   | (with_reducible exact LeO.none _)
   | (with_reducible refine LeO.ite ?_ ?_)
   | (with_reducible refine LeO.bind ?_ (fun _=>?_))
   | exact spec_QRRoom.mono _ _
   | exact LeO.none _
   | refine LeO.ite ?_ ?_
   | refine LeO.bind ?_ (fun _=>?_)
set_option maxHeartbeats 8000000 in
set_option maxRecDepth 100000 in
theorem spec_QRTotal.calls (k:Nat)(a0:Int)(r:Int)(w:World)(h:spec_QRTotal.f k a0=some r) :
  Calls Tryz.prog 56 #[.int .i64 a0] w fun e w'=>e=.returned (.int .i64 r)/\Below w.heap.size w w':=by
 have HB:=Aside0.mk (Below.refl w.heap.size w)
 have H:((spec_QRRoom.f k a0).bind fun t351=>(some (wrap64 (Int.tdiv t351 8))))=some r:=h
 clear h
 replace H:=Option.bind_eq_some_iff.mp H
 obtain⟨t351,A20,H⟩:=H
 replace H:(some (wrap64 (Int.tdiv t351 8)))=some r:=H
 have A2:=Aside0.mk A20
 clear A20
 obtain rfl:=Option.some.inj H
 go_enter Tryz.func56,Tryz.ntmps56
 go_wp2_with (first | ((with_reducible refine gate_callee (f:=102) rfl ?_);refine goesL_ (some 4) rfl rfl Tryz.func102 (by kernel_rfl) rfl #[.int .i64 a0] rfl (by (try simp only [List.map_toArray,List.map_cons,List.map_nil]);first | done | rfl | (simp only [List.length_drop,List.length_take];rfl)) ?_;(with_reducible refine (spec_QRRoom.calls k a0 t351 _ A2.out).mono ?_);rintro e w3 ⟨rfl,hb⟩;refine⟨_,rfl,?_⟩;have n0_:=Aside0.mk (below_step (by repeat (first | (with_reducible first | exact HB.out | apply below_alloc | apply pw_below_drewN | apply below_drew1) | exact HB.out)) hb);clear HB;have HB:=n0_;clear n0_;(try clear hb);(try clear hb2);(try clear hk);(try clear hi)))
 go_ret
 exact⟨by first | rfl | (simp [errW_none,errW_some]<;>rfl) | (simp [*,errW_none,errW_some]<;>rfl),by repeat (first | (with_reducible first | exact HB.out | apply below_alloc | apply pw_below_drewN | apply below_drew1) | exact HB.out)⟩
def spec_QRMaskBit.f (a0:Int)(a1:Int)(a2:Int):Option (Bool):=if a0=0 then (some ((Int.tmod (wrap64 (a1+a2)) 2)==0)) else (if a0=1 then (some ((Int.tmod a2 2)==0)) else (if a0=2 then (some ((Int.tmod a1 3)==0)) else (if a0=3 then (some ((Int.tmod (wrap64 (a1+a2)) 3)==0)) else (if a0=4 then (some ((Int.tmod (wrap64 ((wrap64 (Int.tdiv a2 2))+(wrap64 (Int.tdiv a1 3)))) 2)==0)) else (if a0=5 then (some ((wrap64 ((Int.tmod (wrap64 (a1*a2)) 2)+(Int.tmod (wrap64 (a1*a2)) 3)))==0)) else (if a0=6 then (some ((Int.tmod (wrap64 ((Int.tmod (wrap64 (a1*a2)) 2)+(Int.tmod (wrap64 (a1*a2)) 3))) 2)==0)) else (some ((Int.tmod (wrap64 ((Int.tmod (wrap64 (a1+a2)) 2)+(Int.tmod (wrap64 (a1*a2)) 3))) 2)==0))))))))
set_option maxHeartbeats 8000000 in
set_option maxRecDepth 100000 in
theorem spec_QRMaskBit.calls (a0:Int)(a1:Int)(a2:Int)(r:Bool)(w:World)(h:spec_QRMaskBit.f a0 a1 a2=some r) :
  Calls Tryz.prog 65 #[.int .i64 a0,.int .i64 a1,.int .i64 a2] w fun e w'=>e=.returned (.bool r)/\Drawn0 w w':=by
 have H:(if a0=0 then (some ((Int.tmod (wrap64 (a1+a2)) 2)==0)) else (if a0=1 then (some ((Int.tmod a2 2)==0)) else (if a0=2 then (some ((Int.tmod a1 3)==0)) else (if a0=3 then (some ((Int.tmod (wrap64 (a1+a2)) 3)==0)) else (if a0=4 then (some ((Int.tmod (wrap64 ((wrap64 (Int.tdiv a2 2))+(wrap64 (Int.tdiv a1 3)))) 2)==0)) else (if a0=5 then (some ((wrap64 ((Int.tmod (wrap64 (a1*a2)) 2)+(Int.tmod (wrap64 (a1*a2)) 3)))==0)) else (if a0=6 then (some ((Int.tmod (wrap64 ((Int.tmod (wrap64 (a1*a2)) 2)+(Int.tmod (wrap64 (a1*a2)) 3))) 2)==0)) else (some ((Int.tmod (wrap64 ((Int.tmod (wrap64 (a1+a2)) 2)+(Int.tmod (wrap64 (a1*a2)) 3))) 2)==0)))))))))=some r:=h
 clear h
 by_cases c4:a0=0
 ·rw [if_pos c4] at H
  have c4b0:(a0==0)=true:=beq_iff_eq.mpr c4
  have c4b1:(a0 != 0)=false:=bne_eq_false_iff_eq.mpr c4
  clear c4
  obtain rfl:=Option.some.inj H
  go_enter Tryz.func65,Tryz.ntmps65
  go_wp2
  go_ret
  exact⟨by first | rfl | (simp;done) | (simp [*];done),by repeat (first | exact Drawn0.refl _ | apply Drawn0.step)⟩
 ·rw [if_neg c4] at H
  have c4b0:(a0==0)=false:=beq_eq_false_iff_ne.mpr c4
  have c4b1:(a0 != 0)=true:=bne_iff_ne.mpr c4
  by_cases c5:a0=1
  ·rw [if_pos c5] at H
   have c5b0:(a0==1)=true:=beq_iff_eq.mpr c5
   have c5b1:(a0 != 1)=false:=bne_eq_false_iff_eq.mpr c5
   clear c5
   obtain rfl:=Option.some.inj H
   go_enter Tryz.func65,Tryz.ntmps65
   go_wp2
   go_ret
   exact⟨by first | rfl | (simp;done) | (simp [*];done),by repeat (first | exact Drawn0.refl _ | apply Drawn0.step)⟩
  ·rw [if_neg c5] at H
   have c5b0:(a0==1)=false:=beq_eq_false_iff_ne.mpr c5
   have c5b1:(a0 != 1)=true:=bne_iff_ne.mpr c5
   by_cases c6:a0=2
   ·rw [if_pos c6] at H
    have c6b0:(a0==2)=true:=beq_iff_eq.mpr c6
    have c6b1:(a0 != 2)=false:=bne_eq_false_iff_eq.mpr c6
    clear c6
    obtain rfl:=Option.some.inj H
    go_enter Tryz.func65,Tryz.ntmps65
    go_wp2
    go_ret
    exact⟨by first | rfl | (simp;done) | (simp [*];done),by repeat (first | exact Drawn0.refl _ | apply Drawn0.step)⟩
   ·rw [if_neg c6] at H
    have c6b0:(a0==2)=false:=beq_eq_false_iff_ne.mpr c6
    have c6b1:(a0 != 2)=true:=bne_iff_ne.mpr c6
    by_cases c7:a0=3
    ·rw [if_pos c7] at H
     have c7b0:(a0==3)=true:=beq_iff_eq.mpr c7
     have c7b1:(a0 != 3)=false:=bne_eq_false_iff_eq.mpr c7
     clear c7
     obtain rfl:=Option.some.inj H
     go_enter Tryz.func65,Tryz.ntmps65
     go_wp2
     go_ret
     exact⟨by first | rfl | (simp;done) | (simp [*];done),by repeat (first | exact Drawn0.refl _ | apply Drawn0.step)⟩
    ·rw [if_neg c7] at H
     have c7b0:(a0==3)=false:=beq_eq_false_iff_ne.mpr c7
     have c7b1:(a0 != 3)=true:=bne_iff_ne.mpr c7
     by_cases c8:a0=4
     ·rw [if_pos c8] at H
      have c8b0:(a0==4)=true:=beq_iff_eq.mpr c8
      have c8b1:(a0 != 4)=false:=bne_eq_false_iff_eq.mpr c8
      clear c8
      obtain rfl:=Option.some.inj H
      go_enter Tryz.func65,Tryz.ntmps65
      go_wp2
      go_ret
      exact⟨by first | rfl | (simp;done) | (simp [*];done),by repeat (first | exact Drawn0.refl _ | apply Drawn0.step)⟩
     ·rw [if_neg c8] at H
      have c8b0:(a0==4)=false:=beq_eq_false_iff_ne.mpr c8
      have c8b1:(a0 != 4)=true:=bne_iff_ne.mpr c8
      by_cases c9:a0=5
      ·rw [if_pos c9] at H
       have c9b0:(a0==5)=true:=beq_iff_eq.mpr c9
       have c9b1:(a0 != 5)=false:=bne_eq_false_iff_eq.mpr c9
       clear c9
       obtain rfl:=Option.some.inj H
       go_enter Tryz.func65,Tryz.ntmps65
       go_wp2
       go_ret
       exact⟨by first | rfl | (simp;done) | (simp [*];done),by repeat (first | exact Drawn0.refl _ | apply Drawn0.step)⟩
      ·rw [if_neg c9] at H
       have c9b0:(a0==5)=false:=beq_eq_false_iff_ne.mpr c9
       have c9b1:(a0 != 5)=true:=bne_iff_ne.mpr c9
       by_cases c10:a0=6
       ·rw [if_pos c10] at H
        have c10b0:(a0==6)=true:=beq_iff_eq.mpr c10
        have c10b1:(a0 != 6)=false:=bne_eq_false_iff_eq.mpr c10
        clear c10
        obtain rfl:=Option.some.inj H
        go_enter Tryz.func65,Tryz.ntmps65
        go_wp2
        go_ret
        exact⟨by first | rfl | (simp;done) | (simp [*];done),by repeat (first | exact Drawn0.refl _ | apply Drawn0.step)⟩
       ·rw [if_neg c10] at H
        have c10b0:(a0==6)=false:=beq_eq_false_iff_ne.mpr c10
        have c10b1:(a0 != 6)=true:=bne_iff_ne.mpr c10
        obtain rfl:=Option.some.inj H
        go_enter Tryz.func65,Tryz.ntmps65
        go_wp2
        go_ret
        exact⟨by first | rfl | (simp;done) | (simp [*];done),by repeat (first | exact Drawn0.refl _ | apply Drawn0.step)⟩
def laws_zzFits9.f (a0_0:Int)(l0_1:List Int):Option (Bool):=if (l0_1.length:Int)>2147483647 then (some false) else (some true)
def laws_zzFits8.l0:Nat->List (S98)->Int->Int->Option (Bool)
 | 0,_,_,_=>none
 | k+1,x8,x9,x10=>if x10<x9 then (if 0<=x10 then (if x10<(x8.length:Int) then ((laws_zzFits9.f ((rd_T98 x8 x10).f0) ((rd_T98 x8 x10).f1)).bind fun t344=>(if t344=true then (laws_zzFits8.l0 k x8 x9 (wrap64 (x10+1))) else (some false))) else (none)) else (none)) else (some true)
def laws_zzFits8.f (k:Nat)(l0:List (S98)):Option (Bool):=if (l0.length:Int)>2147483647 then (some false) else (laws_zzFits8.l0 k l0 (l0.length:Int) 0)
theorem laws_zzFits8.mono_l:∀ k,(∀ y0 y1 y2,LeO (laws_zzFits8.l0 k y0 y1 y2) (laws_zzFits8.l0 (k+1) y0 y1 y2))
 | 0=>fun _ _ _ r h=>by simp [laws_zzFits8.l0] at h
 | k+1=>by
  have ih0:=laws_zzFits8.mono_l k
  ·intro y0 y1 y2
   unfold laws_zzFits8.l0
   repeat' first
   | (with_reducible exact ih0 _ _ _)
   | (with_reducible exact LeO.refl _)
   | (with_reducible exact LeO.none _)
   | (with_reducible refine LeO.ite ?_ ?_)
   | (with_reducible refine LeO.bind ?_ (fun _=>?_))
   | exact ih0 _ _ _
   | exact LeO.none _
   | refine LeO.ite ?_ ?_
   | refine LeO.bind ?_ (fun _=>?_)
theorem laws_zzFits8.mono:∀ a0 k,LeO (laws_zzFits8.f k a0) (laws_zzFits8.f (k+1) a0):=by
 intro a0 k
 have ih0:=laws_zzFits8.mono_l k
 unfold laws_zzFits8.f
 repeat' first
   | (with_reducible exact ih0 _ _ _)
   | (with_reducible exact LeO.refl _)
   | (with_reducible exact LeO.none _)
   | (with_reducible refine LeO.ite ?_ ?_)
   | (with_reducible refine LeO.bind ?_ (fun _=>?_))
   | exact ih0 _ _ _
   | exact LeO.none _
   | refine LeO.ite ?_ ?_
   | refine LeO.bind ?_ (fun _=>?_)
def laws_qrLevel.f (a0:Int):Option (Int):=some (Int.tmod (wrap64 (a0)) 4)
set_option maxHeartbeats 8000000 in
set_option maxRecDepth 100000 in
theorem laws_qrLevel.calls (a0:Int)(r:Int)(w:World)(h:laws_qrLevel.f a0=some r) :
  Calls Tryz.prog 18 #[.int .u8 a0] w fun e w'=>e=.returned (.int .i64 r)/\Drawn0 w w':=by
 have H:(some (Int.tmod (wrap64 (a0)) 4))=some r:=h
 clear h
 obtain rfl:=Option.some.inj H
 go_enter Tryz.func18,Tryz.ntmps18
 go_wp2
 go_ret
 exact⟨by first | rfl | (simp;done) | (simp [*];done),by repeat (first | exact Drawn0.refl _ | apply Drawn0.step)⟩
def laws_qrMask.f (a0:Int):Option (Int):=some (Int.tmod (wrap64 (a0)) 8)
set_option maxHeartbeats 8000000 in
set_option maxRecDepth 100000 in
theorem laws_qrMask.calls (a0:Int)(r:Int)(w:World)(h:laws_qrMask.f a0=some r) :
  Calls Tryz.prog 20 #[.int .u8 a0] w fun e w'=>e=.returned (.int .i64 r)/\Drawn0 w w':=by
 have H:(some (Int.tmod (wrap64 (a0)) 8))=some r:=h
 clear h
 obtain rfl:=Option.some.inj H
 go_enter Tryz.func20,Tryz.ntmps20
 go_wp2
 go_ret
 exact⟨by first | rfl | (simp;done) | (simp [*];done),by repeat (first | exact Drawn0.refl _ | apply Drawn0.step)⟩
end Go.Proofs.YtgccjgpdjkhpdaaGreat.F
