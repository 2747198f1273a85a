import Derived.Test.YtgccjgpdjkhpdaaGreatVQ3
/-! Own texts of this claim, part 7. -/
namespace Go.Proofs.YtgccjgpdjkhpdaaGreat.B
open Go.RowKit Go.Proofs.YtgccjgpdjkhpdaaGreatW.PrintWords Go.Proofs.YtgccjgpdjkhpdaaGreatW.PrintLast Go.Proofs.YtgccjgpdjkhpdaaGreatW.PrintMore
set_option linter.unusedVariables false
set_option linter.unusedSimpArgs false
def inReg (x0 y0 w h x y:Nat):Bool:=decide (x0<=x/\x<x0+w/\y0<=y/\y<y0+h)
def ones (s k:Nat):Nat:=(2 ^ k-1) <<< s
theorem ones_bit (s k i:Nat):(ones s k).testBit i=decide (s<=i/\i<s+k):=by
 unfold ones
 rw [Nat.testBit_shiftLeft,Nat.testBit_two_pow_sub_one]
 by_cases h:s<=i
 ·simp [h,show i-s<k↔i<s+k by omega]
 ·simp [h]
def corner (last i k:Nat):Bool:=decide (i=0/\(k=0\/k=last)\/i=last/\k=0)
def alY (last i:Nat)(y:Nat):Nat->List Nat->Bool
 | _,[]=>false
 | k,b :: cs=>(!corner last i k && decide (b-2<=y/\y<b-2+5)) || alY last i y (k+1) cs
def alX (last:Nat)(cs:List Nat)(x y:Nat):Nat->List Nat->Bool
 | _,[]=>false
 | i,a :: bs=>(decide (a-2<=x/\x<a-2+5) && alY last i y 0 cs) || alX last cs x y (i+1) bs
def alB (cs:List Nat)(x y:Nat):Bool:=alX (cs.length-1) cs x y 0 cs
def fpB (v:Nat)(cs:List Nat)(x y:Nat):Bool :=
 inReg 0 0 9 9 x y || inReg (4*v+9) 0 8 9 x y || inReg 0 (4*v+9) 9 8 x y || alB cs x y || inReg 6 9 1 (4*v) x y || inReg 9 6 (4*v) 1 x y ||
  (decide (6<v) && (inReg (4*v+6) 0 3 6 x y || inReg 0 (4*v+6) 6 3 x y))
def alYm (last i:Nat):Nat->List Nat->Nat
 | _,[]=>0
 | k,b :: cs=>(if corner last i k then 0 else ones (b-2) 5) ||| alYm last i (k+1) cs
def alXm (last:Nat)(cs:List Nat)(x:Nat):Nat->List Nat->Nat
 | _,[]=>0
 | i,a :: bs=>(if a-2<=x/\x<a-2+5 then alYm last i 0 cs else 0) ||| alXm last cs x (i+1) bs
def regm (x0 y0 w h x:Nat):Nat:=if x0<=x/\x<x0+w then ones y0 h else 0
def colm (v:Nat)(cs:List Nat)(x:Nat):Nat :=
 regm 0 0 9 9 x ||| regm (4*v+9) 0 8 9 x ||| regm 0 (4*v+9) 9 8 x ||| alXm (cs.length-1) cs x 0 cs ||| regm 6 9 1 (4*v) x ||| regm 9 6 (4*v) 1 x |||
  (if 6<v then regm (4*v+6) 0 3 6 x ||| regm 0 (4*v+6) 6 3 x else 0)
theorem regm_bit (x0 y0 w h x y:Nat):(regm x0 y0 w h x).testBit y=inReg x0 y0 w h x y:=by
 unfold regm inReg
 by_cases hx:x0<=x/\x<x0+w
 ·rw [if_pos hx,ones_bit];simp [hx]
 ·rw [if_neg hx];simp only [Nat.zero_testBit];symm;rw [decide_eq_false_iff_not];intro hc;exact hx ⟨hc.1,hc.2.1⟩
theorem alYm_bit (last i y:Nat):∀ (cs:List Nat) (k:Nat),(alYm last i k cs).testBit y=alY last i y k cs:=by
 intro cs
 induction cs with
 | nil=>intro k;simp [alYm,alY]
 | cons b cs ih=>
  intro k
  rw [alYm,alY,Nat.testBit_or,ih]
  cases corner last i k<;>simp [ones_bit]
theorem alXm_bit (last:Nat)(cs:List Nat)(x y:Nat):∀ (bs:List Nat) (i:Nat),(alXm last cs x i bs).testBit y=alX last cs x y i bs:=by
 intro bs
 induction bs with
 | nil=>intro i;simp [alXm,alX]
 | cons a bs ih=>
  intro i
  rw [alXm,alX,Nat.testBit_or,ih]
  by_cases h:a-2<=x/\x<a-2+5
  ·rw [if_pos h,alYm_bit];simp [h]
  ·rw [if_neg h,show decide (a-2<=x/\x<a-2+5)=false from decide_eq_false h];simp
theorem colm_bit (v:Nat)(cs:List Nat)(x y:Nat):(colm v cs x).testBit y=fpB v cs x y:=by
 unfold colm fpB alB
 simp only [Nat.testBit_or,regm_bit,alXm_bit]
 by_cases h:6<v
 ·simp only [if_pos h,Nat.testBit_or,regm_bit,decide_eq_true h,Bool.true_and]
 ·simp only [if_neg h,Nat.zero_testBit,decide_eq_false h,Bool.false_and]
def pcN:Nat->Nat->Nat
 | 0,_=>0
 | k+1,x=>x%2+pcN k (x/2)
theorem countP_shift (p:Nat->Bool)(k:Nat):(List.range (k+1)).countP p=(if p 0 then 1 else 0)+(List.range k).countP (fun i=>p (i+1)):=by
 rw [List.range_succ_eq_map,List.countP_cons,List.countP_map,Nat.add_comm]
 rfl
theorem pcN_eq:∀ (k x:Nat),pcN k x=(List.range k).countP fun i=>x.testBit i:=by
 intro k
 induction k with
 | zero=>intro x;rfl
 | succ k ih=>
  intro x
  rw [pcN,ih,countP_shift]
  have h0:x%2=if x.testBit 0=true then 1 else 0:=by
   rw [Nat.testBit_zero]
   by_cases h:x%2=1
   ·simp [h]
   ·have:x%2=0:=by omega
    simp [this]
  rw [h0]
  congr 2
  funext i
  rw [Nat.testBit_succ]
def freeN (n m:Nat):Nat:=n-pcN n m
theorem countP_not (p:Nat->Bool)(l:List Nat):l.countP (fun i=>!p i)=l.length-l.countP p:=by
 have:=List.length_eq_countP_add_countP p (l:=l)
 have e:l.countP (fun i=>!p i)=l.countP (fun a=>decide ¬p a=true):=by congr 1;funext i;cases p i<;>rfl
 omega
theorem freeN_eq (v:Nat)(cs:List Nat)(n x:Nat):freeN n (colm v cs x)=(List.range n).countP fun y=>!fpB v cs x y:=by
 unfold freeN
 rw [pcN_eq,countP_not,List.length_range]
 congr 2
 funext i
 exact colm_bit v cs x i
def pairAt (g:Nat->Nat->Bool)(rt r:Nat):List (Nat×Nat):=[(r,rt),(r,rt-1)].filter fun p=>!g p.2 p.1
def rowAt (n:Nat)(up:Bool)(i:Nat):Nat:=if up then n-1-i else i
def colPair (n:Nat)(g:Nat->Nat->Bool)(rt:Nat)(up:Bool):Nat->List (Nat×Nat)
 | 0=>[]
 | i+1=>colPair n g rt up i++pairAt g rt (rowAt n up i)
def fixR (right:Nat):Nat:=if right=6 then 5 else right
def wayF (n:Nat)(g:Nat->Nat->Bool):Nat->Nat->Bool->List (Nat×Nat)
 | 0,_,_=>[]
 | k+1,right,up=>if right=0 then [] else colPair n g (fixR right) up n++wayF n g k (fixR right-2) (!up)
def way (n:Nat)(g:Nat->Nat->Bool):List (Nat×Nat):=wayF n g n (n-1) true
def lenF (n:Nat)(f:Nat->Nat):Nat->Nat->Nat
 | 0,_=>0
 | k+1,right=>if right=0 then 0 else f (fixR right)+f (fixR right-1)+lenF n f k (fixR right-2)
theorem pairAt_len (g:Nat->Nat->Bool)(rt r:Nat):(pairAt g rt r).length=(if g rt r then 0 else 1)+(if g (rt-1) r then 0 else 1):=by
 unfold pairAt
 simp only [List.filter_cons,List.filter_nil]
 cases g rt r<;>cases g (rt-1) r<;>rfl
theorem colPair_len (n:Nat)(g:Nat->Nat->Bool)(rt:Nat)(up:Bool):∀ i,i<=n->(colPair n g rt up i).length=(List.range i).countP (fun j=>!g rt (rowAt n up j))+(List.range i).countP (fun j=>!g (rt-1) (rowAt n up j)):=by
 intro i
 induction i with
 | zero=>intro _;rfl
 | succ i ih=>
  intro h
  rw [colPair,List.length_append,ih (by omega),pairAt_len,List.range_succ,List.countP_append,List.countP_append]
  simp only [List.countP_cons,List.countP_nil]
  cases g rt (rowAt n up i)<;>cases g (rt-1) (rowAt n up i)<;>simp<;>omega
theorem range_rev (n:Nat):(List.range n).map (fun j=>n-1-j)=(List.range n).reverse:=by
 apply List.ext_getElem
 ·simp
 ·intro i h1 h2
  simp at h1 ⊢
theorem count_row (n:Nat)(up:Bool)(p:Nat->Bool):(List.range n).countP (fun j=>p (rowAt n up j))=(List.range n).countP p:=by
 cases up with
 | false=>rfl
 | true=>
  have:(fun j=>p (rowAt n true j))=p ∘ (fun j=>n-1-j):=rfl
  rw [this,<- List.countP_map,range_rev,List.countP_reverse]
theorem wayF_len (n:Nat)(g:Nat->Nat->Bool):∀ k right up,(wayF n g k right up).length=lenF n (fun x=>(List.range n).countP fun y=>!g x y) k right:=by
 intro k
 induction k with
 | zero=>intro _ _;rfl
 | succ k ih=>
  intro right up
  rw [wayF,lenF]
  split
  ·rfl
  ·rw [List.length_append,ih,colPair_len n g _ up n (Nat.le_refl _),count_row n up (fun y=>!g (fixR right) y),count_row n up (fun y=>!g (fixR right-1) y)]
def ctrs (v:Nat):List Nat :=
 if v=1 then [] else
  let many:=v/7+2
  let step:=if v=32 then 26 else (v*4+many*2+1)/(many*2-2)*2
  6 :: (List.range (many-1)).map fun i=>17+4*v-7-step*(many-2-i)
def roomN (v:Nat):Nat :=
 let n:=17+4*v
 let m:=(ctrs v).length
 n*n-192-2*(n-16)-31-(if 7<=v then 36 else 0)-(if 0<m then 25*(m*m-3)-10*(m-2) else 0)
set_option maxRecDepth 100000 in
set_option maxHeartbeats 4000000 in
theorem room_look:∀ v:Fin 40,lenF (17+4*(v.val+1)) (fun x=>freeN (17+4*(v.val+1)) (colm (v.val+1) (ctrs (v.val+1)) x)) (17+4*(v.val+1)) (17+4*(v.val+1)-1)=roomN (v.val+1):=by decide +kernel
theorem way_len (v:Nat)(hv:1<=v/\v<=40):(way (17+4*v) (fpB v (ctrs v))).length=roomN v:=by
 have h:=room_look ⟨v-1,by omega⟩
 rw [show (⟨v-1,by omega⟩:Fin 40).val+1=v by show v-1+1=v;omega] at h
 unfold way
 rw [wayF_len,<- h]
 congr 1
 funext x
 exact (freeN_eq v (ctrs v) _ x).symm
theorem pairAt_mem (g:Nat->Nat->Bool)(rt r:Nat)(p:Nat×Nat)(h:p∈pairAt g rt r):p.1=r/\(p.2=rt\/p.2=rt-1)/\g p.2 p.1=false:=by
 unfold pairAt at h
 rw [List.mem_filter] at h
 obtain⟨h1,h2⟩:=h
 simp only [List.mem_cons,List.not_mem_nil,or_false] at h1
 refine⟨?_,?_,by simpa using h2⟩
 ·rcases h1 with rfl | rfl<;>rfl
 ·rcases h1 with rfl | rfl
  ·exact .inl rfl
  ·exact .inr rfl
theorem pairAt_nodup (g:Nat->Nat->Bool)(rt r:Nat)(h:1<=rt):(pairAt g rt r).Nodup:=by
 unfold pairAt
 refine List.Pairwise.filter _ (List.Pairwise.cons ?_ (List.Pairwise.cons (fun _ h=>by cases h) List.Pairwise.nil))
 intro a ha
 rw [List.mem_singleton] at ha
 subst ha
 intro e
 have:=congrArg Prod.snd e
 simp only at this
 omega
theorem colPair_mem (n:Nat)(g:Nat->Nat->Bool)(rt:Nat)(up:Bool)(p:Nat×Nat):∀ i,p∈colPair n g rt up i->∃ j,j<i/\p.1=rowAt n up j/\(p.2=rt\/p.2=rt-1)/\g p.2 p.1=false:=by
 intro i
 induction i with
 | zero=>intro h;cases h
 | succ i ih=>
  intro h
  rw [colPair,List.mem_append] at h
  rcases h with h | h
  ·obtain⟨j,hj,k⟩:=ih h
   exact⟨j,by omega,k⟩
  ·obtain⟨h1,h2,h3⟩:=pairAt_mem g rt _ p h
   exact⟨i,by omega,h1,h2,h3⟩
theorem rowAt_inj (n:Nat)(up:Bool)(i j:Nat)(hi:i<n)(hj:j<n)(h:rowAt n up i=rowAt n up j):i=j:=by
 unfold rowAt at h
 cases up<;>simp at h<;>omega
theorem rowAt_lt (n:Nat)(up:Bool)(i:Nat)(hi:i<n):rowAt n up i<n:=by
 unfold rowAt
 cases up<;>simp<;>omega
theorem colPair_nodup (n:Nat)(g:Nat->Nat->Bool)(rt:Nat)(up:Bool)(hr:1<=rt):∀ i,i<=n->(colPair n g rt up i).Nodup:=by
 intro i
 induction i with
 | zero=>intro _;exact List.nodup_nil
 | succ i ih=>
  intro h
  rw [colPair,List.nodup_append]
  refine⟨ih (by omega),pairAt_nodup g rt _ hr,?_⟩
  intro a ha b hb hab
  subst hab
  obtain⟨j,hj,h1,_⟩:=colPair_mem n g rt up a i ha
  have h2:=(pairAt_mem g rt _ a hb).1
  have:=rowAt_inj n up j i (by omega) (by omega) (h1.symm.trans h2)
  omega
theorem wayF_mem (n:Nat)(g:Nat->Nat->Bool)(p:Nat×Nat):∀ k right up,p∈wayF n g k right up->1<=right/\p.2<=fixR right/\p.1<n/\g p.2 p.1=false:=by
 intro k
 induction k with
 | zero=>intro _ _ h;cases h
 | succ k ih=>
  intro right up h
  rw [wayF] at h
  split at h
  ·cases h
  ·rw [List.mem_append] at h
   rcases h with h | h
   ·obtain⟨j,hj,h1,h2,h3⟩:=colPair_mem n g _ up p n h
    exact⟨by omega,by omega,h1 ▸ rowAt_lt n up j hj,h3⟩
   ·obtain⟨h1,h2,h3⟩:=ih _ _ h
    refine⟨by omega,?_,h3⟩
    have:fixR (fixR right-2)<=fixR right-2:=by
     unfold fixR;split<;>split<;>omega
    omega
theorem wayF_nodup (n:Nat)(g:Nat->Nat->Bool):∀ k right up,(wayF n g k right up).Nodup:=by
 intro k
 induction k with
 | zero=>intro _ _;exact List.nodup_nil
 | succ k ih=>
  intro right up
  rw [wayF]
  split
  ·exact List.nodup_nil
  ·rw [List.nodup_append]
   have h1:1<=fixR right:=by unfold fixR;split<;>omega
   refine⟨colPair_nodup n g _ up h1 n (Nat.le_refl _),ih _ _,?_⟩
   intro a ha b hb hab
   subst hab
   obtain⟨j,hj,_,h2,_⟩:=colPair_mem n g _ up a n ha
   obtain⟨h3,h4,_⟩:=wayF_mem n g a _ _ _ hb
   have:fixR (fixR right-2)<=fixR right-2:=by
    unfold fixR;split<;>split<;>omega
   omega
def putAll (bit:Nat->Nat×Nat->Bool):List (Nat×Nat)->Nat->(Nat->Nat->Bool)->Nat->Nat->Bool
 | [],_,f=>f
 | p :: l,i,f=>putAll bit l (i+1) fun r c=>if r=p.1/\c=p.2 then bit i p else f r c
theorem putAll_other (bit:Nat->Nat×Nat->Bool)(r c:Nat):∀ (l:List (Nat×Nat)) (i:Nat) (f:Nat->Nat->Bool),(r,c)∉l->putAll bit l i f r c=f r c:=by
 intro l
 induction l with
 | nil=>intro i f _;rfl
 | cons p l ih=>
  intro i f h
  rw [putAll,ih _ _ (fun h'=>h (List.mem_cons_of_mem _ h'))]
  rw [if_neg]
  rintro⟨rfl,rfl⟩
  exact h (List.mem_cons_self ..)
theorem putAll_at (bit:Nat->Nat×Nat->Bool):∀ (l:List (Nat×Nat)) (i:Nat) (f:Nat->Nat->Bool),l.Nodup->∀ (j:Nat) (p:Nat×Nat),l[j]? = some p->putAll bit l i f p.1 p.2=bit (i+j) p:=by
 intro l
 induction l with
 | nil=>intro i f _ j p h;simp at h
 | cons q l ih=>
  intro i f hn j p h
  rw [List.nodup_cons] at hn
  rw [putAll]
  cases j with
  | zero=>
   simp at h
   subst h
   rw [putAll_other bit q.1 q.2 l _ _ hn.1,if_pos ⟨rfl,rfl⟩]
   rfl
  | succ j=>
   rw [ih (i+1) _ hn.2 j p (by simpa using h)]
   congr 1
   omega
end Go.Proofs.YtgccjgpdjkhpdaaGreat.B
