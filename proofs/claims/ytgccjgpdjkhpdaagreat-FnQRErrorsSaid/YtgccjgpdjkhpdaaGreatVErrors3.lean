import Derived.Test.YtgccjgpdjkhpdaaGreatVErrors2
open List renaming range→Mw
open Nat renaming testBit_or→Mx
/-! Own texts of this claim, part 3. -/
namespace Go.Proofs.YtgccjgpdjkhpdaaGreat.B
open Go.RowKit Go.Proofs.YtgccjgpdjkhpdaaGreatW.PrintWords Go.Proofs.YtgccjgpdjkhpdaaGreatW.PrintLast Go.Proofs.YtgccjgpdjkhpdaaGreatW.PrintMore
set_option linter.unusedVariables false
set_option linter.unusedSimpArgs false
def dz (x0 y0 w h x y:Nat):Bool:=decide (x0<=x/\x<x0+w/\y0<=y/\y<y0+h)
def rA (s k:Nat):Nat:=(2 ^ k-1) <<< s
theorem zh (s k i:Nat):(rA s k).testBit i=decide (s<=i/\i<s+k):=by
 unfold rA;rw [Nat.testBit_shiftLeft,Nat.testBit_two_pow_sub_one];by_cases h:s<=i
 ·simp [h,show i-s<k↔i<s+k by omega]
 simp [h]
def gA (last i k:Nat):Bool:=decide (i=0/\(k=0\/k=last)\/i=last/\k=0)
def iM (last i:Nat)(y:Nat):Nat->List Nat->Bool
 | _,[]=>false
 | k,b :: cs=>(!gA last i k && decide (b-2<=y/\y<b-2+5)) || iM last i y (k+1) cs
def jw (last:Nat)(cs:List Nat)(x y:Nat):Nat->List Nat->Bool
 | _,[]=>false
 | i,a :: bs=>(decide (a-2<=x/\x<a-2+5) && iM last i y 0 cs) || jw last cs x y (i+1) bs
def jW (cs:List Nat)(x y:Nat):Bool:=jw (cs.length-1) cs x y 0 cs
def bM (v:Nat)(cs:List Nat)(x y:Nat):Bool :=
 dz 0 0 9 9 x y || dz (4*v+9) 0 8 9 x y || dz 0 (4*v+9) 9 8 x y || jW cs x y || dz 6 9 1 (4*v) x y || dz 9 6 (4*v) 1 x y ||
  (decide (6<v) && (dz (4*v+6) 0 3 6 x y || dz 0 (4*v+6) 6 3 x y))
def pb (last i:Nat):Nat->List Nat->Nat
 | _,[]=>0
 | k,b :: cs=>(if gA last i k then 0 else rA (b-2) 5) ||| pb last i (k+1) cs
def pc (last:Nat)(cs:List Nat)(x:Nat):Nat->List Nat->Nat
 | _,[]=>0
 | i,a :: bs=>(if a-2<=x/\x<a-2+5 then pb last i 0 cs else 0) ||| pc last cs x (i+1) bs
def lf (x0 y0 w h x:Nat):Nat:=if x0<=x/\x<x0+w then rA y0 h else 0
def rB (v:Nat)(cs:List Nat)(x:Nat):Nat :=
 lf 0 0 9 9 x ||| lf (4*v+9) 0 8 9 x ||| lf 0 (4*v+9) 9 8 x ||| pc (cs.length-1) cs x 0 cs ||| lf 6 9 1 (4*v) x ||| lf 9 6 (4*v) 1 x |||
  (if 6<v then lf (4*v+6) 0 3 6 x ||| lf 0 (4*v+6) 6 3 x else 0)
theorem zi (x0 y0 w h x y:Nat):(lf x0 y0 w h x).testBit y=dz x0 y0 w h x y:=by
 unfold lf dz;by_cases hx:x0<=x/\x<x0+w
 ·rw [if_pos hx,zh];simp [hx]
 rw [if_neg hx];simp only [Nat.zero_testBit];symm;rw [decide_eq_false_iff_not];intro hc;exact hx ⟨hc.1,hc.2.1⟩
theorem GS (last i y:Nat):∀ (cs:List Nat) (k:Nat),(pb last i k cs).testBit y=iM last i y k cs:=by
 intro cs
 induction cs with
 | nil=>intro k;simp [pb,iM]
 | cons b cs ih=>
  intro k;rw [pb,iM,Mx,ih];cases gA last i k<;>simp [zh]
theorem GT (last:Nat)(cs:List Nat)(x y:Nat):∀ (bs:List Nat) (i:Nat),(pc last cs x i bs).testBit y=jw last cs x y i bs:=by
 intro bs
 induction bs with
 | nil=>intro i;simp [pc,jw]
 | cons a bs ih=>
  intro i;rw [pc,jw,Mx,ih];by_cases h:a-2<=x/\x<a-2+5
  ·rw [if_pos h,GS];simp [h]
  rw [if_neg h,show decide (a-2<=x/\x<a-2+5)=false from decide_eq_false h];simp
theorem GU (v:Nat)(cs:List Nat)(x y:Nat):(rB v cs x).testBit y=bM v cs x y:=by
 unfold rB bM jW;simp only [Mx,zi,GT];by_cases h:6<v
 ·simp only [if_pos h,Mx,zi,decide_eq_true h,Bool.true_and]
 simp only [if_neg h,Nat.zero_testBit,decide_eq_false h,Bool.false_and]
def ba:Nat->Nat->Nat
 | 0,_=>0
 | k+1,x=>x%2+ba k (x/2)
theorem GV (p:Nat->Bool)(k:Nat):(Mw (k+1)).countP p=(if p 0 then 1 else 0)+(Mw k).countP (fun i=>p (i+1)):=by
 rw [List.range_succ_eq_map,List.countP_cons,List.countP_map,Nat.add_comm];rfl
theorem tR:∀ (k x:Nat),ba k x=(Mw k).countP fun i=>x.testBit i:=by
 intro k
 induction k with
 | zero=>intro x;rfl
 | succ k ih=>
  intro x;rw [ba,ih,GV];have h0:x%2=if x.testBit 0=true then 1 else 0:=by
   rw [Nat.testBit_zero];by_cases h:x%2=1
   ·simp [h]
   have:x%2=0:=by omega
   simp [this]
  rw [h0];congr 2;funext i;rw [Nat.testBit_succ]
def tS (n m:Nat):Nat:=n-ba n m
theorem GX (p:Nat->Bool)(l:List Nat):l.countP (fun i=>!p i)=l.length-l.countP p:=by
 have:=List.length_eq_countP_add_countP p (l:=l);have e:l.countP (fun i=>!p i)=l.countP (fun a=>decide ¬p a=true):=by congr 1;funext i;cases p i<;>rfl
 omega
theorem GY (v:Nat)(cs:List Nat)(n x:Nat):tS n (rB v cs x)=(Mw n).countP fun y=>!bM v cs x y:=by
 unfold tS;rw [tR,GX,List.length_range];congr 2;funext i;exact GU v cs x i
def jx (g:Nat->Nat->Bool)(rt r:Nat):List (Nat×Nat):=[(r,rt),(r,rt-1)].filter fun p=>!g p.2 p.1
def fd (n:Nat)(up:Bool)(i:Nat):Nat:=if up then n-1-i else i
def bR (n:Nat)(g:Nat->Nat->Bool)(rt:Nat)(up:Bool):Nat->List (Nat×Nat)
 | 0=>[]
 | i+1=>bR n g rt up i++jx g rt (fd n up i)
def dA (right:Nat):Nat:=if right=6 then 5 else right
def eU (n:Nat)(g:Nat->Nat->Bool):Nat->Nat->Bool->List (Nat×Nat)
 | 0,_,_=>[]
 | k+1,right,up=>if right=0 then [] else bR n g (dA right) up n++eU n g k (dA right-2) (!up)
def dW (n:Nat)(g:Nat->Nat->Bool):List (Nat×Nat):=eU n g n (n-1) true
def rC (n:Nat)(f:Nat->Nat):Nat->Nat->Nat
 | 0,_=>0
 | k+1,right=>if right=0 then 0 else f (dA right)+f (dA right-1)+rC n f k (dA right-2)
theorem GZ (g:Nat->Nat->Bool)(rt r:Nat):(jx g rt r).length=(if g rt r then 0 else 1)+(if g (rt-1) r then 0 else 1):=by
 unfold jx;simp only [List.filter_cons,List.filter_nil];cases g rt r<;>cases g (rt-1) r<;>rfl
theorem G0 (n:Nat)(g:Nat->Nat->Bool)(rt:Nat)(up:Bool):∀ i,i<=n->(bR n g rt up i).length=(Mw i).countP (fun j=>!g rt (fd n up j))+(Mw i).countP (fun j=>!g (rt-1) (fd n up j)):=by
 intro i
 induction i with
 | zero=>intro _;rfl
 | succ i ih=>
  intro h;rw [bR,List.length_append,ih (by omega),GZ,List.range_succ,List.countP_append,List.countP_append];simp only [List.countP_cons,List.countP_nil];cases g rt (fd n up i)<;>cases g (rt-1) (fd n up i)<;>simp<;>omega
theorem G1 (n:Nat):(Mw n).map (fun j=>n-1-j)=(Mw n).reverse:=by
 apply List.ext_getElem
 ·simp
 intro i h1 h2;simp at h1 ⊢
theorem zj (n:Nat)(up:Bool)(p:Nat->Bool):(Mw n).countP (fun j=>p (fd n up j))=(Mw n).countP p:=by
 cases up with
 | false=>rfl
 | true=>
  have:(fun j=>p (fd n true j))=p ∘ (fun j=>n-1-j):=rfl;rw [this,<- List.countP_map,G1,List.countP_reverse]
theorem G2 (n:Nat)(g:Nat->Nat->Bool):∀ k right up,(eU n g k right up).length=rC n (fun x=>(Mw n).countP fun y=>!g x y) k right:=by
 intro k
 induction k with
 | zero=>intro _ _;rfl
 | succ k ih=>
  intro right up;rw [eU,rC]
  split
  ·rfl
  rw [List.length_append,ih,G0 n g _ up n (Nat.le_refl _),zj n up (fun y=>!g (dA right) y),zj n up (fun y=>!g (dA right-1) y)]
def bA (v:Nat):List Nat :=
 if v=1 then [] else
  let many:=v/7+2
  let step:=if v=32 then 26 else (v*4+many*2+1)/(many*2-2)*2
  6 :: (Mw (many-1)).map fun i=>17+4*v-7-step*(many-2-i)
def bW (v:Nat):Nat :=
 let n:=17+4*v
 let m:=(bA v).length
 n*n-192-2*(n-16)-31-(if 7<=v then 36 else 0)-(if 0<m then 25*(m*m-3)-10*(m-2) else 0)
set_option maxRecDepth 100000 in
set_option maxHeartbeats 4000000 in
theorem G3:∀ v:Fin 40,rC (17+4*(v.val+1)) (fun x=>tS (17+4*(v.val+1)) (rB (v.val+1) (bA (v.val+1)) x)) (17+4*(v.val+1)) (17+4*(v.val+1)-1)=bW (v.val+1):=by decide +kernel
theorem tT (v:Nat)(hv:1<=v/\v<=40):(dW (17+4*v) (bM v (bA v))).length=bW v:=by
 have h:=G3 ⟨v-1,by omega⟩;rw [show (⟨v-1,by omega⟩:Fin 40).val+1=v by show v-1+1=v;omega] at h
 unfold dW;rw [G2,<- h];congr 1;funext x;exact (GY v (bA v) _ x).symm
theorem zl (g:Nat->Nat->Bool)(rt r:Nat)(p:Nat×Nat)(h:p∈jx g rt r):p.1=r/\(p.2=rt\/p.2=rt-1)/\g p.2 p.1=false:=by
 unfold jx at h;rw [List.mem_filter] at h;obtain⟨h1,h2⟩:=h;simp only [List.mem_cons,List.not_mem_nil,or_false] at h1;refine⟨?_,?_,by simpa using h2⟩
 ·rcases h1 with rfl | rfl<;>rfl
 rcases h1 with rfl | rfl
 ·exact .inl rfl
 exact .inr rfl
theorem G4 (g:Nat->Nat->Bool)(rt r:Nat)(h:1<=rt):(jx g rt r).Nodup:=by
 unfold jx;refine List.Pairwise.filter _ (List.Pairwise.cons ?_ (List.Pairwise.cons (fun _ h=>by cases h) List.Pairwise.nil));intro a ha;rw [List.mem_singleton] at ha;subst ha;intro e;have:=congrArg Prod.snd e;simp only at this;omega
theorem tU (n:Nat)(g:Nat->Nat->Bool)(rt:Nat)(up:Bool)(p:Nat×Nat):∀ i,p∈bR n g rt up i->∃ j,j<i/\p.1=fd n up j/\(p.2=rt\/p.2=rt-1)/\g p.2 p.1=false:=by
 intro i
 induction i with
 | zero=>intro h;cases h
 | succ i ih=>
  intro h;rw [bR,List.mem_append] at h;rcases h with h | h
  ·obtain⟨j,hj,k⟩:=ih h;exact⟨j,by omega,k⟩
  obtain⟨h1,h2,h3⟩:=zl g rt _ p h;exact⟨i,by omega,h1,h2,h3⟩
theorem G5 (n:Nat)(up:Bool)(i j:Nat)(hi:i<n)(hj:j<n)(h:fd n up i=fd n up j):i=j:=by
 unfold fd at h;cases up<;>simp at h<;>omega
theorem rD (n:Nat)(up:Bool)(i:Nat)(hi:i<n):fd n up i<n:=by
 unfold fd;cases up<;>simp<;>omega
theorem G6 (n:Nat)(g:Nat->Nat->Bool)(rt:Nat)(up:Bool)(hr:1<=rt):∀ i,i<=n->(bR n g rt up i).Nodup:=by
 intro i
 induction i with
 | zero=>intro _;exact List.nodup_nil
 | succ i ih=>
  intro h;rw [bR,List.nodup_append];refine⟨ih (by omega),G4 g rt _ hr,?_⟩;intro a ha b hb hab;subst hab;obtain⟨j,hj,h1,_⟩:=tU n g rt up a i ha;have h2:=(zl g rt _ a hb).1;have:=G5 n up j i (by omega) (by omega) (h1.symm.trans h2);omega
theorem rE (n:Nat)(g:Nat->Nat->Bool)(p:Nat×Nat):∀ k right up,p∈eU n g k right up->1<=right/\p.2<=dA right/\p.1<n/\g p.2 p.1=false:=by
 intro k
 induction k with
 | zero=>intro _ _ h;cases h
 | succ k ih=>
  intro right up h;rw [eU] at h
  split at h
  ·cases h
  rw [List.mem_append] at h;rcases h with h | h
  ·obtain⟨j,hj,h1,h2,h3⟩:=tU n g _ up p n h;exact⟨by omega,by omega,h1 ▸ rD n up j hj,h3⟩
  obtain⟨h1,h2,h3⟩:=ih _ _ h;refine⟨by omega,?_,h3⟩;have:dA (dA right-2)<=dA right-2:=by
   unfold dA;split<;>split<;>omega
  omega
theorem G7 (n:Nat)(g:Nat->Nat->Bool):∀ k right up,(eU n g k right up).Nodup:=by
 intro k
 induction k with
 | zero=>intro _ _;exact List.nodup_nil
 | succ k ih=>
  intro right up;rw [eU]
  split
  ·exact List.nodup_nil
  rw [List.nodup_append];have h1:1<=dA right:=by unfold dA;split<;>omega
  refine⟨G6 n g _ up h1 n (Nat.le_refl _),ih _ _,?_⟩;intro a ha b hb hab;subst hab;obtain⟨j,hj,_,h2,_⟩:=tU n g _ up a n ha;obtain⟨h3,h4,_⟩:=rE n g a _ _ _ hb;have:dA (dA right-2)<=dA right-2:=by
   unfold dA;split<;>split<;>omega
  omega
def dC (bit:Nat->Nat×Nat->Bool):List (Nat×Nat)->Nat->(Nat->Nat->Bool)->Nat->Nat->Bool
 | [],_,f=>f
 | p :: l,i,f=>dC bit l (i+1) fun r c=>if r=p.1/\c=p.2 then bit i p else f r c
theorem zm (bit:Nat->Nat×Nat->Bool)(r c:Nat):∀ (l:List (Nat×Nat)) (i:Nat) (f:Nat->Nat->Bool),(r,c)∉l->dC bit l i f r c=f r c:=by
 intro l
 induction l with
 | nil=>intro i f _;rfl
 | cons p l ih=>
  intro i f h;rw [dC,ih _ _ (fun h'=>h (List.mem_cons_of_mem _ h'))];rw [if_neg];rintro⟨rfl,rfl⟩;exact h (List.mem_cons_self ..)
theorem G8 (bit:Nat->Nat×Nat->Bool):∀ (l:List (Nat×Nat)) (i:Nat) (f:Nat->Nat->Bool),l.Nodup->∀ (j:Nat) (p:Nat×Nat),l[j]? = some p->dC bit l i f p.1 p.2=bit (i+j) p:=by
 intro l
 induction l with
 | nil=>intro i f _ j p h;simp at h
 | cons q l ih=>
  intro i f hn j p h;rw [List.nodup_cons] at hn;rw [dC];cases j with
  | zero=>
   simp at h;subst h;rw [zm bit q.1 q.2 l _ _ hn.1,if_pos ⟨rfl,rfl⟩];rfl
  | succ j=>
   rw [ih (i+1) _ hn.2 j p (by simpa using h)];congr 1;omega
end Go.Proofs.YtgccjgpdjkhpdaaGreat.B
